import Derived.Test.YbulkcsqkGreatDoorSxHas
namespace Go.Proofs.YbulkcsqkGreatDoor
namespace Sx
set_option maxRecDepth 10000
variable {w0 : World}

theorem FI.fresh {h0 h : Hp} {rb cb n b : Nat} {L : List (Nat × Obj)} (hf : FI h0 rb cb n L h) (hb : h b = none) : rb ≠ b ∧ cb ≠ b ∧ h0 b = none ∧ ∀ p ∈ L, p.1 ≠ b := by
  obtain ⟨cs, h1, _⟩ := hf.ru
  obtain ⟨ds, h2, _⟩ := hf.cu
  have e1 : rb ≠ b := fun e => by rw [e, hb] at h1; cases h1
  have e2 : cb ≠ b := fun e => by rw [e, hb] at h2; cases h2
  refine ⟨e1, e2, ?_, hf.has.free hb⟩
  cases h3 : h0 b with
  | none => rfl
  | some o => have := hf.x b o e1.symm e2.symm h3; rw [hb] at this; cases this

section
variable {h : Hp} {N bc bs bo rb cb n n0 c0 cc co : Nat} {rc sc oc : Array Value} {fs fo : Nat × Nat} {a0 : Option Addr}

def grE (a0 : Option Addr) (n0 c0 bs n cc : Nat) : Array Value := #[.slice a0 n0 c0, .slice (some ⟨bs, 0, none⟩) n cc, .slice none 0 0, .slice none 0 0, .slice none 0 0]

/-- closure.fill over a graph that has no edge. -/
theorem fill_ok (hc : h bc = some (.cells rc 70 (0, 0))) (f0 : rc[0]? = some (.int .i64 ((1 : Nat) : Int))) (f1 : rc[0 + 1]? = some (.slice (some ⟨rb, 0, none⟩) n n)) (f2 : rc[0 + 2]? = some (.slice (some ⟨cb, 0, none⟩) n n))
    (hs : h bs = some (.cells sc 25 fs)) (hsv : ∀ i, i < n → sc[i]? = some (.slice none 0 0)) (ho : h bo = some (.cells oc 3 fo)) (hov : ∀ i, i < n → oc[i]? = some (.int .i64 (i : Int)))
    (hr : Us h rb n) (hcu : Us h cb n) (hne : rb ≠ cb) (hn : n ≤ 64) :
    CallsX Ybaz.prog w0 14 #[.pointer (some ⟨bc, 0, none⟩), .agg #[.slice a0 n0 c0, .slice (some ⟨bs, 0, none⟩) n cc, .slice none 0 0, .slice none 0 0, .slice none 0 0], .slice (some ⟨bo, 0, none⟩) n co] h N (fun v h' _ => v = .tuple #[] ∧ Ext2 rb cb h h') := by
  have hF : FI h rb cb n [(bc, .cells rc 70 (0, 0)), (bs, .cells sc 25 fs), (bo, .cells oc 3 fo)] h := ⟨⟨hc, hs, ho, trivial⟩, fun _ _ _ _ e => e, hr, hcu, hne⟩
  refine calls_of Ybaz.func14 rfl Ybaz.ntmps14 (Nat.le_of_ble_eq_true rfl) ?_
  refine c_seq ?_
  refine c_region (by kernel_rfl) ?_
  refine st (ok_box (v := .pointer _) rfl rfl (fun hN3 => ?_))
  refine st (ok_box (v := .agg _) rfl rfl (fun hN4 => ?_))
  refine o_nil ?_
  refine n_then ?_
  refine c_seq ?_
  have hF := (hF.push hN3 (.cells #[.pointer (some ⟨bc, 0, none⟩)] 133 (0, 0))).push hN4 (.cells #[.slice a0 n0 c0, .slice (some ⟨bs, 0, none⟩) n cc, .slice none 0 0, .slice none 0 0, .slice none 0 0] 39 (0, 0))
  refine c_heap (fun h' _ => FI h rb cb n _ h') hF ?_
  intro h1 N1 hF
  obtain ⟨g4, g3, gc, gs, go, _⟩ := hF.has
  obtain ⟨rs, gr, _, grn⟩ := hF.ru
  refine c_region (by kernel_rfl) ?_
  refine st_q (ok_load (ty rfl) rfl g3 (by rfl) ⟨rfl, rfl, rfl⟩) ?_
  refine st_q (ok_nilCheck_ptr rfl ⟨rfl, rfl, rfl⟩) ?_
  refine st_q (ok_fieldAddr (fld rfl) rfl ⟨rfl, rfl, rfl⟩) ?_
  refine st_q (ok_load (ty rfl) rfl gc f1 ⟨rfl, rfl, rfl⟩) ?_
  refine st0 (ok_clear1 (sl rfl) (ty rfl) rfl rfl gr (by omega) ?_)
  refine o_nil ?_
  refine n_then ?_
  refine c_seq ?_
  refine c_heap (fun h' _ => FI h rb cb n _ h') (hF.rclear rfl gr) ?_
  intro h2 N2 hF
  obtain ⟨g4, g3, gc, gs, go, _⟩ := hF.has
  obtain ⟨qs, gq, _, gqn⟩ := hF.cu
  refine c_region (by kernel_rfl) ?_
  refine st_q (ok_load (ty rfl) rfl g3 (by rfl) ⟨rfl, rfl, rfl⟩) ?_
  refine st_q (ok_nilCheck_ptr rfl ⟨rfl, rfl, rfl⟩) ?_
  refine st_q (ok_fieldAddr (fld rfl) rfl ⟨rfl, rfl, rfl⟩) ?_
  refine st_q (ok_load (ty rfl) rfl gc f2 ⟨rfl, rfl, rfl⟩) ?_
  refine st0 (ok_clear1 (sl rfl) (ty rfl) rfl rfl gq (by omega) ?_)
  refine o_nil ?_
  refine n_then ?_
  refine c_seq ?_
  refine c_heap (fun h' _ => FI h rb cb n _ h') (hF.cclear rfl gq) ?_
  clear gq gr g4 g3 gc gs go
  intro h3 N3 hF
  obtain ⟨g4, g3, gc, gs, go, _⟩ := hF.has
  refine c_region (by kernel_rfl) ?_
  refine st_q (ok_fieldAddr (fld rfl) rfl ⟨rfl, rfl, rfl⟩) ?_
  refine st_q (ok_load (ty rfl) rfl g4 (by rfl) ⟨rfl, rfl, rfl⟩) ?_
  refine st_q (ok_len (sl rfl) rfl ⟨rfl, rfl, rfl⟩) ?_
  refine st (ok_makeSlice (sl rfl) (ty rfl) rfl rfl (by omega) (by omega) (by omega) (by omega) (l' := n) (c' := n) (by omega) (by omega) (fun hN29 => ?_))
  refine st (ok_alloc (ty rfl) rfl (fun hN6 => ?_))
  refine st0 (ok_store (ty rfl) rfl (v := .slice _ _ _) rfl rfl (hset_same _ _ _) (Nat.le_of_ble_eq_true rfl) ?_)
  refine o_nil ?_
  refine n_then ?_
  refine c_seq ?_
  refine c_seq ?_
  have hfr := hF.fresh (hN29 N3 (Nat.le_refl _))
  have hA := (hF.ext (Ext.push hN29 (.cells (madeCells #[.int .i64 0] (n * 1)) 3 (0, 0)))).push hN6 (.cells #[.slice (some ⟨N3, 0, none⟩) n n] 25 (0, 0))
  rw [← hset_hset _ _ (Obj.cells #[.slice none 0 0] 25 (0, 0)) _] at hA
  refine c_heap (fun h' _ => FI h rb cb n _ h' ∧ ∃ ps, h' N3 = some (.cells ps 3 (0, 0)) ∧ ps.size = n) ⟨hA, ?_⟩ ?_
  · refine ⟨madeCells #[.int .i64 0] (n * 1), ?_, by rw [madeCells_one]; simp⟩
    have e : N3 ≠ N3 + 1 := by omega
    exact (hset_ne _ _ e).trans ((hset_ne _ _ e).trans (hset_same _ _ _))
  clear hA
  have hfr2 : ∀ p ∈ ((N3 + 1, Obj.cells #[.slice (some ⟨N3, 0, none⟩) n n] 25 (0, 0)) :: [(N + 1, Obj.cells #[.slice a0 n0 c0, .slice (some ⟨bs, 0, none⟩) n cc, .slice none 0 0, .slice none 0 0, .slice none 0 0] 39 (0, 0)), (N, .cells #[.pointer (some ⟨bc, 0, none⟩)] 133 (0, 0)), (bc, .cells rc 70 (0, 0)), (bs, .cells sc 25 fs), (bo, .cells oc 3 fo)]), p.1 ≠ N3 := by
    intro p hp
    rcases List.mem_cons.1 hp with rfl | hp
    · exact Nat.succ_ne_self N3
    · exact hfr.2.2.2 p hp
  clear hF g4 g3 gc gs go
  rintro h4 N4 ⟨hF, ps, gp, gpn⟩
  refine c_region (by kernel_rfl) ?_
  refine st_q (ok_move (v := .slice _ _ _) rfl ⟨rfl, rfl, rfl⟩) ?_
  refine st_q (ok_len (sl rfl) rfl ⟨rfl, rfl, rfl⟩) ?_
  refine st_q (ok_move (v := .int _ _) rfl ⟨rfl, rfl, rfl⟩) ?_
  refine o_nil ?_
  refine n_then ?_
  refine c_block ?_
  refine c_loop (fun k E h' _ D => D = [] ∧ k ≤ n ∧ Fr E [(2, .slice (some ⟨bo, 0, none⟩) n co), (3, .pointer (some ⟨N, 0, none⟩)), (4, .pointer (some ⟨N + 1, 0, none⟩)), (6, .pointer (some ⟨N3 + 1, 0, none⟩)), (30, .slice (some ⟨bo, 0, none⟩) n co), (31, .int .i64 n), (32, .int .i64 ((n - k : Nat) : Int))] ∧ FI h rb cb n _ h' ∧ ∃ ps, h' N3 = some (.cells ps 3 (0, 0)) ∧ ps.size = n) (k := n) ⟨rfl, Nat.le_refl _, ⟨rfl, rfl, rfl, rfl, rfl, rfl, by simp [upd], trivial⟩, hF, ps, gp, gpn⟩ ?_
  clear hF gp gpn ps
  rintro k E h5 N5 D ⟨rfl, hk, hE, hF, ps, gp, gpn⟩
  obtain ⟨E0, rfl⟩ := hE.ex
  obtain ⟨g6, g4, g3, gc, gs, go, _⟩ := hF.has
  refine c_seq ?_
  refine c_region (by kernel_rfl) ?_
  refine st_q (ok_lss rfl rfl ⟨rfl, rfl, rfl⟩) ?_
  refine o_nil ?_
  refine n_then ?_
  refine c_seq ?_
  refine c_cond_prop rfl (fun hc => ?_) (fun hc => ?_)
  · skip
    refine c_skip ?_
    refine n_then ?_
    refine c_seq ?_
    refine c_block ?_
    refine c_seq ?_
    have hlt : n - k < n := by omega
    refine c_region (by kernel_rfl) ?_
    refine st_q (ok_move (v := .int _ _) rfl ⟨rfl, rfl, rfl⟩) ?_
    refine st_q (ok_indexAddr (sl rfl) (ty rfl) rfl rfl (by omega) (by omega) (off := n - k) (by omega) ⟨rfl, rfl, rfl⟩) ?_
    refine st_q (ok_load (ty rfl) rfl go (hov _ hlt) ⟨rfl, rfl, rfl⟩) ?_
    refine st_q (ok_assign (v := .int _ _) rfl ⟨rfl, rfl, rfl⟩) ?_
    refine st_q (ok_assign (v := .int _ _) rfl ⟨rfl, rfl, rfl⟩) ?_
    refine o_nil ?_
    refine n_then ?_
    refine c_region (by kernel_rfl) ?_
    refine st_q (ok_load (ty rfl) rfl g6 (by rfl) ⟨rfl, rfl, rfl⟩) ?_
    refine st_q (ok_move (v := .int _ _) rfl ⟨rfl, rfl, rfl⟩) ?_
    refine st_q (ok_move (v := .int _ _) rfl ⟨rfl, rfl, rfl⟩) ?_
    refine st_q (ok_indexAddr (sl rfl) (ty rfl) rfl rfl (by omega) (by omega) (off := n - k) (by omega) ⟨rfl, rfl, rfl⟩) ?_
    refine st0 (ok_store (ty rfl) rfl (v := .int _ _) rfl rfl gp (by omega) ?_)
    refine o_nil ?_
    refine n_block (n_then ?_)
    refine c_region (by kernel_rfl) ?_
    refine st_q (ok_add rfl rfl (by omega) (by omega) ⟨rfl, rfl, rfl⟩) ?_
    refine st_q (ok_move (v := .int _ _) rfl ⟨rfl, rfl, rfl⟩) ?_
    refine o_nil ?_
    refine n_then ⟨k - 1, by omega, rfl, by omega, ⟨rfl, rfl, rfl, rfl, rfl, rfl, ?_, trivial⟩, hF.other hfr2 hfr.1 hfr.2.1 hfr.2.2.1, _, hset_same _ _ _, by simp [gpn]⟩
    show Value.int .i64 (((n - k : Nat) : Int) + 1) = _
    congr 1; omega
  · skip
    refine c_exit ?_
    refine x_then (x_then (x_block (n_then ?_)))
    clear gp gpn ps
    refine c_seq ?_
    refine c_region (by kernel_rfl) ?_
    refine st_q (ok_loadAgg (ty rfl) rfl g4 (Nat.le_of_ble_eq_true rfl) rfl ⟨rfl, rfl, rfl⟩) ?_
    refine st (ok_call rfl ent16 (pred0_ok gs hsv (by omega)) rfl ?_)
    rintro _ h6 N6 ⟨hx6, bq, rfl, gq, -⟩
    refine st_q (ok_assign (v := .slice _ _ _) rfl ⟨rfl, rfl, rfl⟩) ?_
    refine o_nil ?_
    refine n_then ?_
    refine c_seq ?_
    have hF := (hF.ext hx6).cons gq
    obtain ⟨gq, g6, g4, g3, gc, gs, go, _⟩ := hF.has
    refine c_region (by kernel_rfl) ?_
    refine st_q (ok_makeFunc rfl rfl ⟨rfl, rfl, rfl⟩) ?_
    refine st (ok_alloc (ty rfl) rfl (fun hN10 => ?_))
    refine st0 (ok_store (ty rfl) rfl (v := .func _ _ _) rfl rfl (hset_same _ _ _) (Nat.le_of_ble_eq_true rfl) ?_)
    refine o_nil ?_
    refine n_then ?_
    refine c_seq ?_
    have hA := hF.push hN10 (.cells #[.func (.func 30) #[] #[.pointer (some ⟨N3 + 1, 0, none⟩)]] 99 (0, 0))
    rw [← hset_hset _ _ (Obj.cells #[.nilFunc] 99 (0, 0)) _] at hA
    refine c_heap (fun h' _ => FI h rb cb n _ h') hA ?_
    clear hA
    clear hF gq g6 g4 g3 gc gs go
    intro h7 N7 hF
    refine c_region (by kernel_rfl) ?_
    refine st (ok_alloc (ty rfl) rfl (fun hN11 => ?_))
    refine o_nil ?_
    refine n_then ?_
    refine c_seq ?_
    have hF := hF.push hN11 (.cells #[.slice none 0 0] 25 (0, 0))
    refine c_heap (fun h' _ => FI h rb cb n _ h') hF ?_
    clear hF
    intro h8 N8 hF
    obtain ⟨g11, g10, gq, g6, g4, g3, gc, gs, go, _⟩ := hF.has
    refine c_region (by kernel_rfl) ?_
    refine st_q (ok_loadAgg (ty rfl) rfl g4 (Nat.le_of_ble_eq_true rfl) rfl ⟨rfl, rfl, rfl⟩) ?_
    refine st_q (ok_load (ty rfl) rfl g3 (by rfl) ⟨rfl, rfl, rfl⟩) ?_
    refine st_q (ok_makeFunc rfl rfl ⟨rfl, rfl, rfl⟩) ?_
    refine st_q (ok_load (ty rfl) rfl g10 (by rfl) ⟨rfl, rfl, rfl⟩) ?_
    refine st (ok_call rfl ent31 (newFanUnion_ok) rfl ?_)
    rintro _ h9 N9 ⟨hx9, b1, b2, rfl⟩
    refine st (ok_alloc (ty rfl) rfl (fun hN12 => ?_))
    refine st0 (ok_storeL (ty rfl) rfl (v := .agg _) rfl rfl rfl rfl (hset_same _ _ _) (Nat.le_of_ble_eq_true rfl) ?_)
    refine o_nil ?_
    refine n_then ?_
    refine c_seq ?_
    refine c_seq ?_
    have hF := hF.ext hx9
    have hA := hF.push hN12 (.cells #[.slice a0 n0 c0, .slice (some ⟨bs, 0, none⟩) n cc, .slice none 0 0, .slice none 0 0, .slice none 0 0, .bool true, .func (.func 32) #[.pointer (some ⟨bc, 0, none⟩)] #[], .func (.func 30) #[] #[.pointer (some ⟨N3 + 1, 0, none⟩)], .slice (some ⟨b1, 0, none⟩) 0 0, .slice (some ⟨b2, 0, none⟩) 0 0] 136 (0, 0))
    rw [← hset_hset _ _ (Obj.cells #[.slice none 0 0, .slice none 0 0, .slice none 0 0, .slice none 0 0, .slice none 0 0, .bool false, .nilFunc, .nilFunc, .slice none 0 0, .slice none 0 0] 136 (0, 0)) _] at hA
    refine c_heap (fun h' _ => FI h rb cb n _ h') hA ?_
    clear hA
    clear hF g11 g10 gq g6 g4 g3 gc gs go
    intro h10 N10 hF
    refine c_region (by kernel_rfl) ?_
    refine st_q (ok_move (v := .slice _ _ _) rfl ⟨rfl, rfl, rfl⟩) ?_
    refine st (ok_call rfl ent33 (backward_ok) rfl ?_)
    rintro _ h11 N11 ⟨rfl, rfl, rfl, hN51⟩
    refine o_nil ?_
    refine n_then ?_
    have hF := hF.push hN51 (.cells #[.slice (some ⟨bo, 0, none⟩) n co] 25 (0, 0))
    refine c_heap (fun h' _ => FI h rb cb n _ h') hF ?_
    clear hF
    intro h12 N12 hF
    obtain ⟨L, hLw, hLh, hF⟩ : ∃ L, noWords L = true ∧ (∀ h', Has h' L → h' N10 = some (.cells #[.slice (some ⟨bo, 0, none⟩) n co] 25 (0, 0)) ∧ h' N9 = some (.cells #[.slice a0 n0 c0, .slice (some ⟨bs, 0, none⟩) n cc, .slice none 0 0, .slice none 0 0, .slice none 0 0, .bool true, .func (.func 32) #[.pointer (some ⟨bc, 0, none⟩)] #[], .func (.func 30) #[] #[.pointer (some ⟨N3 + 1, 0, none⟩)], .slice (some ⟨b1, 0, none⟩) 0 0, .slice (some ⟨b2, 0, none⟩) 0 0] 136 (0, 0)) ∧
        h' N7 = some (.cells #[.slice none 0 0] 25 (0, 0)) ∧ h' N6 = some (.cells #[.func (.func 30) #[] #[.pointer (some ⟨N3 + 1, 0, none⟩)]] 99 (0, 0)) ∧ h' bq = some (.cells (Array.replicate n (.slice none 0 0)) 25 (0, 0)) ∧ h' (N3 + 1) = some (.cells #[.slice (some ⟨N3, 0, none⟩) n n] 25 (0, 0)) ∧
        h' (N + 1) = some (.cells #[.slice a0 n0 c0, .slice (some ⟨bs, 0, none⟩) n cc, .slice none 0 0, .slice none 0 0, .slice none 0 0] 39 (0, 0)) ∧ h' N = some (.cells #[.pointer (some ⟨bc, 0, none⟩)] 133 (0, 0)) ∧ h' bc = some (.cells rc 70 (0, 0)) ∧ h' bs = some (.cells sc 25 fs) ∧ h' bo = some (.cells oc 3 fo)) ∧ FI h rb cb n L h12 := by
      refine ⟨_, ?_, ?_, hF⟩
      · rfl
      · rintro _ ⟨x1, x2, x3, x4, x5, x6, x7, x8, x9, x10, x11, _⟩
        exact ⟨x1, x2, x3, x4, x5, x6, x7, x8, x9, x10, x11⟩
    refine c_block ?_
    refine c_cut (fun E h' _ D => Fr E [(2, .slice (some ⟨bo, 0, none⟩) n co), (3, .pointer (some ⟨N, 0, none⟩)), (4, .pointer (some ⟨N + 1, 0, none⟩)), (9, .slice (some ⟨bq, 0, none⟩) n n), (10, .pointer (some ⟨N6, 0, none⟩))] ∧ ∃ dn, D = [{ target := .collected dn, args := #[] }] ∧ h dn = none ∧ h' dn = some (.deferred (some [])) ∧ FI h rb cb n L h') ?_ ?_
    · skip
      by_cases hfree : ∀ b, N12 ≤ b → h12 b = none
      case neg =>
        refine c_range (σ := Nat) (gf := 65) (ps := [52, 53]) (lb := #[.pointer (some ⟨N10, 0, none⟩)]) rfl ent65 rfl (fun _ _ _ => False) (fun _ _ _ => False) (fun _ _ _ => False) (fun _ => False) 0 (fun _ hf => hfree hf) (fun _ _ _ _ x => x) (fun _ _ _ _ x => x) (fun _ _ _ x => x.elim) (fun _ _ _ _ _ _ x => x.elim) (fun _ _ _ x => x.1.elim) (fun _ _ _ x => x.elim) (fun _ _ _ x => x.elim)
      have hfrD := hF.fresh (hfree N12 (Nat.le_refl _))
      have hfrL := hF.fresh (hfree (N12 + 1) (by omega))
      refine c_range (σ := Nat) (gf := 65) (ps := [52, 53]) (lb := #[.pointer (some ⟨N10, 0, none⟩)]) rfl ent65 rfl (fun _ h' _ => FI h rb cb n L h') (fun _ _ _ => False) (fun s args s' => s = s' + 1 ∧ s' < n ∧ args = [.int .i64 (s' : Int), .int .i64 (s' : Int)]) (fun s => s = 0) n ?_ ?_ ?_ ?_ ?_ ?_ ?_ ?_
      · intro o hf
        exact (hF.other hfrD.2.2.2 hfrD.1 hfrD.2.1 hfrD.2.2.1).other hfrL.2.2.2 hfrL.1 hfrL.2.1 hfrL.2.2.1
      · intro s h' N' o hI
        exact hI.other hfrL.2.2.2 hfrL.1 hfrL.2.1 hfrL.2.2.1
      · intro _ _ _ _ x; exact x
      · rintro s args s' ⟨_, _, rfl⟩; rfl
      · rintro R s args s' h' N' ⟨rfl, hsn, rfl⟩ hRd hI hl hd
        refine c_region (by kernel_rfl) ?_
        refine st_q (ok_assign (v := .int _ _) rfl ⟨rfl, rfl, rfl⟩) ?_
        refine o_nil ?_
        refine n_then ⟨hl, ?_⟩
        have hF := ((hI.other (o := R.obj .busy none) hfrL.2.2.2 hfrL.1 hfrL.2.1 hfrL.2.2.1).cons (b := N12) (o := .deferred (some [])) (by rw [hset_ne _ _ (by omega)]; exact hd)).cons (b := N12 + 1) (hset_same _ _ _)
        refine c_heap (fun h' _ => FI h rb cb n _ h') hF ?_
        have hLw2 : noWords ((N12 + 1, R.obj .busy none) :: (N12, .deferred (some [])) :: L) = true := by simp [noWords, isWords, Rec.obj, hLw]
        clear hF
        intro h13 N13 hF
        obtain ⟨_, g12, g11, g10, gq, g6, g4, g3, gc, gs, go⟩ := hLh _ hF.has.2.2
        refine c_block ?_
        refine c_seq ?_
        refine c_region (by kernel_rfl) ?_
        refine st_q (ok_load (ty rfl) rfl g3 (by rfl) ⟨rfl, rfl, rfl⟩) ?_
        refine st_q (ok_move (v := .int _ _) rfl ⟨rfl, rfl, rfl⟩) ?_
        refine st (ok_call rfl ent32 (row_ok (W := 1) gc f0 f1 (by omega) (by decide) (by omega)) rfl ?_)
        rintro _ h14 N14 ⟨rfl, rfl, rfl⟩
        refine st_q (ok_move (v := .int _ _) rfl ⟨rfl, rfl, rfl⟩) ?_
        refine st (ok_call rfl ent34 (fuAdd_ok g12) rfl ?_)
        rintro _ h15 N15 ⟨rfl, hx15⟩
        refine o_nil ?_
        refine n_then ?_
        refine c_seq ?_
        have hF := hF.ext hx15
        obtain ⟨_, g12, g11, g10, gq, g6, g4, g3, gc, gs, go⟩ := hLh _ hF.has.2.2
        refine c_draw mixed [0, 0, 0, 0, 0, 0, 0, 2, 2] 9 rfl [((0, 1), [((1, 2), [((2, 2), [((3, 1), [((4, 2), [((5, 2), [((6, 1), [((7, 0), [((8, 0), ())])])])])])])])])] (by kernel_rfl) (by kernel_rfl) ?_
        refine w_r rfl (fun _ _ hExt => ok_load (ty rfl) rfl (hExt _ _ g11) (by rfl) ⟨rfl, rfl, rfl⟩) ?_
        refine w_p rfl (fun _ _ => ok_slice_hi (sl rfl) (ty rfl) rfl rfl (by omega) (by omega) ⟨rfl, rfl, rfl⟩) ?_
        refine w_p rfl (fun _ _ => ok_fieldAddr (fld rfl) rfl ⟨rfl, rfl, rfl⟩) ?_
        refine w_r rfl (fun _ _ hExt => ok_load (ty rfl) rfl (hExt _ _ g4) (by rfl) ⟨rfl, rfl, rfl⟩) ?_
        refine w_p rfl (fun _ _ => ok_move (v := .int _ _) rfl ⟨rfl, rfl, rfl⟩) ?_
        refine w_p rfl (fun _ _ => ok_indexAddr (sl rfl) (ty rfl) rfl rfl (by omega) (by omega) (off := s') (by omega) ⟨rfl, rfl, rfl⟩) ?_
        refine w_r rfl (fun _ _ hExt => ok_load (ty rfl) rfl (hExt _ _ gs) (hsv _ hsn) ⟨rfl, rfl, rfl⟩) ?_
        refine w_e rfl (ok_append_none rfl (sl rfl) (ty rfl) rfl rfl (Nat.le_refl _) ⟨trivial, ?_⟩)
        refine w_e0 rfl (ok_store (ty rfl) rfl (v := .slice _ _ _) rfl rfl g11 (Nat.le_of_ble_eq_true rfl) ⟨trivial, ?_⟩)
        refine w_nil ?_
        refine n_then ?_
        refine c_seq ?_
        refine c_heap (fun h' N' => h' = h15) (hset_self g11) ?_
        rintro _ N16 rfl
        refine c_region (by kernel_rfl) ?_
        refine st_q (ok_load (ty rfl) rfl g11 (by rfl) ⟨rfl, rfl, rfl⟩) ?_
        refine st_q (ok_load (ty rfl) rfl g10 (by rfl) ⟨rfl, rfl, rfl⟩) ?_
        refine st (ok_call rfl ent35 (sort0_ok) rfl ?_)
        rintro _ h16 N16 ⟨rfl, rfl, rfl⟩
        refine o_nil ?_
        refine n_then ?_
        obtain ⟨rs, gr, gru, grn⟩ := hF.ru
        refine c_draw mixed [0, 0, 0, 0, 0, 0, 0, 2] 8 rfl [((0, 1), [((1, 2), [((2, 1), [((3, 2), [((4, 1), [((5, 1), [((6, 2), [((7, 0), ())])])])])])])])] (by kernel_rfl) (by kernel_rfl) ?_
        refine w_r rfl (fun _ _ hExt => ok_load (ty rfl) rfl (hExt _ _ g3) (by rfl) ⟨rfl, rfl, rfl⟩) ?_
        refine w_p rfl (fun _ _ => ok_move (v := .int _ _) rfl ⟨rfl, rfl, rfl⟩) ?_
        refine w_r rfl (fun h' N' hExt => ok_call rfl ent32 (row_ok (W := 1) (hExt _ _ gc) f0 f1 (by omega) (by decide) (by omega)) rfl (fun _ _ _ hR => hR)) ?_
        refine w_p rfl (fun _ _ => ok_move (v := .int _ _) rfl ⟨rfl, rfl, rfl⟩) ?_
        refine w_r rfl (fun _ _ hExt => ok_load (ty rfl) rfl (hExt _ _ g11) (by rfl) ⟨rfl, rfl, rfl⟩) ?_
        refine w_r rfl (fun _ _ hExt => ok_load (ty rfl) rfl (hExt _ _ g3) (by rfl) ⟨rfl, rfl, rfl⟩) ?_
        refine w_p rfl (fun _ _ => ok_makeFunc rfl rfl ⟨rfl, rfl, rfl⟩) ?_
        refine w_e rfl (ok_call rfl ent36 (union0_ok (W := 1) gr gru (by omega) (by omega) (by decide)) rfl ?_)
        rintro _ h17 N17 ⟨rfl, rfl, x, rfl⟩
        refine ⟨trivial, ?_⟩
        refine w_nil ?_
        refine n_block ?_
        have hF := hF.rset (j := s' * 1 + s' / 64) (x := x) hLw2 gr
        exact ⟨⟨hF.has.1, by rw [hRd]; exact hF.has.2.1⟩, ⟨hF.has.2.2, hF.x, hF.ru, hF.cu, hF.ne⟩⟩
      · intro R hRd hY hlive
        refine (backIter_ok (J := fun j h' N' => Live (fun (_ : Nat) h' _ => FI h rb cb n L h') (N12 + 1) R j h' N') (Jx := fun h' N' => Stopped (fun _ _ _ => False) (N12 + 1) R h' N') (te := 3) (fz := fo) (c := co) (xs := oc) (bb := N10) (ob := bo) (n := n) (fun j => (j : Int)) (by omega) ?_ hov ?_ hlive).mono ?_
        · intro j h' N' hj
          obtain ⟨x1, _, _, _, _, _, _, _, _, _, x11⟩ := hLh _ hj.1.has
          exact ⟨x1, x11⟩
        · intro j h' N' hj hJ
          exact hY (j + 1) _ j h' N' ⟨rfl, hj, rfl⟩ hJ
        · rintro v h' N' (hJ | hJ)
          · exact .inl ⟨0, rfl, hJ⟩
          · exact .inr hJ
      · intro s h' N' _ hI hd
        exact n_then ⟨⟨rfl, rfl, rfl, rfl, rfl, trivial⟩, N12, rfl, hfrD.2.2.1, hd, hI⟩
      · intro _ _ _ x; exact x.elim
    rintro E h13 N13 D ⟨hE, dn, rfl, hdn, gd, hF⟩
    obtain ⟨E1, rfl⟩ := hE.ex
    refine n_block (n_then ?_)
    refine c_seq ?_
    have hF := hF.cons gd
    have hLw2 : noWords ((dn, .deferred (some [])) :: L) = true := by simp [noWords, isWords, hLw]
    obtain ⟨_, g12, g11, g10, gq, g6, g4, g3, gc, gs, go⟩ := hLh _ hF.has.2
    refine c_region (by kernel_rfl) ?_
    refine st_q (ok_loadAgg (ty rfl) rfl g4 (Nat.le_of_ble_eq_true rfl) rfl ⟨rfl, rfl, rfl⟩) ?_
    refine st_q (ok_load (ty rfl) rfl g3 (by rfl) ⟨rfl, rfl, rfl⟩) ?_
    refine st_q (ok_makeFunc rfl rfl ⟨rfl, rfl, rfl⟩) ?_
    refine st_q (ok_makeFunc rfl rfl ⟨rfl, rfl, rfl⟩) ?_
    refine st (ok_call rfl ent31 (newFanUnion_ok) rfl ?_)
    rintro _ h14 N14 ⟨hx14, b3, b4, rfl⟩
    refine st (ok_alloc (ty rfl) rfl (fun hN15 => ?_))
    refine st0 (ok_storeL (ty rfl) rfl (v := .agg _) rfl rfl rfl rfl (hset_same _ _ _) (Nat.le_of_ble_eq_true rfl) ?_)
    refine o_nil ?_
    refine n_then ?_
    refine c_seq ?_
    have hA := (hF.ext hx14).push hN15 (.cells #[.slice a0 n0 c0, .slice (some ⟨bs, 0, none⟩) n cc, .slice none 0 0, .slice none 0 0, .slice none 0 0, .bool false, .func (.func 37) #[.pointer (some ⟨bc, 0, none⟩)] #[], .func (.func 38) #[] #[.pointer (some ⟨N6, 0, none⟩)], .slice (some ⟨b3, 0, none⟩) 0 0, .slice (some ⟨b4, 0, none⟩) 0 0] 136 (0, 0))
    rw [← hset_hset _ _ (Obj.cells #[.slice none 0 0, .slice none 0 0, .slice none 0 0, .slice none 0 0, .slice none 0 0, .bool false, .nilFunc, .nilFunc, .slice none 0 0, .slice none 0 0] 136 (0, 0)) _] at hA
    refine c_heap (fun h' _ => FI h rb cb n _ h') hA ?_
    clear hA hF g12 g11 g10 gq g6 g4 g3 gc gs go gd
    intro h15 N15 hF
    refine c_region (by kernel_rfl) ?_
    refine st_q (ok_move (v := .slice _ _ _) rfl ⟨rfl, rfl, rfl⟩) ?_
    refine st_q (ok_len (sl rfl) rfl ⟨rfl, rfl, rfl⟩) ?_
    refine st_q (ok_move (v := .int _ _) rfl ⟨rfl, rfl, rfl⟩) ?_
    refine o_nil ?_
    refine n_then ?_
    refine c_block ?_
    refine c_loop (fun k E h' _ D => D = [{ target := .collected dn, args := #[] }] ∧ k ≤ n ∧ Fr E [(3, .pointer (some ⟨N, 0, none⟩)), (9, .slice (some ⟨bq, 0, none⟩) n n), (10, .pointer (some ⟨N6, 0, none⟩)), (15, .pointer (some ⟨N14, 0, none⟩)), (83, .slice (some ⟨bo, 0, none⟩) n co), (84, .int .i64 n), (85, .int .i64 ((n - k : Nat) : Int))] ∧ FI h rb cb n _ h') (k := n) ⟨rfl, Nat.le_refl _, ⟨rfl, rfl, rfl, rfl, rfl, rfl, by simp [upd], trivial⟩, hF⟩ ?_
    clear hF
    rintro k E h16 N16 D ⟨rfl, hk, hE, hF⟩
    obtain ⟨E2, rfl⟩ := hE.ex
    obtain ⟨g15, gd, hLL⟩ := hF.has
    obtain ⟨_, g12, g11, g10, gq, g6, g4, g3, gc, gs, go⟩ := hLh _ hLL
    refine c_seq ?_
    refine c_region (by kernel_rfl) ?_
    refine st_q (ok_lss rfl rfl ⟨rfl, rfl, rfl⟩) ?_
    refine o_nil ?_
    refine n_then ?_
    refine c_seq ?_
    refine c_cond_prop rfl (fun hc => ?_) (fun hc => ?_)
    · skip
      have hlt : n - k < n := by omega
      have hrep : (Array.replicate n (Value.slice none 0 0))[n - k]? = some (.slice none 0 0) := by simp [hlt]
      refine c_skip ?_
      refine n_then ?_
      refine c_seq ?_
      refine c_block ?_
      refine c_seq ?_
      refine c_region (by kernel_rfl) ?_
      refine st_q (ok_indexAddr (sl rfl) (ty rfl) rfl rfl (by omega) (by omega) (off := n - k) (by omega) ⟨rfl, rfl, rfl⟩) ?_
      refine st_q (ok_load (ty rfl) rfl go (hov _ hlt) ⟨rfl, rfl, rfl⟩) ?_
      refine st_q (ok_assign (v := .int _ _) rfl ⟨rfl, rfl, rfl⟩) ?_
      refine o_nil ?_
      refine n_then ?_
      refine c_seq ?_
      refine c_region (by kernel_rfl) ?_
      refine st_q (ok_load (ty rfl) rfl g3 (by rfl) ⟨rfl, rfl, rfl⟩) ?_
      refine st_q (ok_move (v := .int _ _) rfl ⟨rfl, rfl, rfl⟩) ?_
      refine st (ok_call rfl ent37 (col_ok (W := 1) gc f0 f2 (by omega) (by decide) (by omega)) rfl ?_)
      rintro _ h17 N17 ⟨rfl, rfl, rfl⟩
      refine st_q (ok_move (v := .int _ _) rfl ⟨rfl, rfl, rfl⟩) ?_
      refine st (ok_call rfl ent34 (fuAdd_ok g15) rfl ?_)
      rintro _ h18 N18 ⟨rfl, hx18⟩
      refine o_nil ?_
      refine n_then ?_
      refine c_seq ?_
      have hF := hF.ext hx18
      obtain ⟨g15, gd, hLL⟩ := hF.has
      obtain ⟨_, g12, g11, g10, gq, g6, g4, g3, gc, gs, go⟩ := hLh _ hLL
      refine c_draw mixed [0, 0, 0, 0, 0, 2] 6 rfl [((0, 2), [((1, 2), [((2, 2), [((3, 1), [((4, 1), [((5, 0), ())])])])])])] (by kernel_rfl) (by kernel_rfl) ?_
      refine w_p rfl (fun _ _ => ok_move (v := .slice _ _ _) rfl ⟨rfl, rfl, rfl⟩) ?_
      refine w_p rfl (fun _ _ => ok_move (v := .int _ _) rfl ⟨rfl, rfl, rfl⟩) ?_
      refine w_p rfl (fun _ _ => ok_indexAddr (sl rfl) (ty rfl) rfl rfl (by omega) (by omega) (off := n - k) (by omega) ⟨rfl, rfl, rfl⟩) ?_
      refine w_r rfl (fun _ _ hExt => ok_load (ty rfl) rfl (hExt _ _ gq) hrep ⟨rfl, rfl, rfl⟩) ?_
      refine w_r rfl (fun _ _ hExt => ok_load (ty rfl) rfl (hExt _ _ g10) (by rfl) ⟨rfl, rfl, rfl⟩) ?_
      refine w_e rfl (ok_call rfl ent35 (sort0_ok) rfl ?_)
      rintro _ h19 N19 ⟨rfl, rfl, rfl⟩
      refine ⟨trivial, ?_⟩
      refine w_nil ?_
      refine n_then ?_
      refine c_seq ?_
      refine c_region (by kernel_rfl) ?_
      refine st_q (ok_move (v := .slice _ _ _) rfl ⟨rfl, rfl, rfl⟩) ?_
      refine st_q (ok_move (v := .int _ _) rfl ⟨rfl, rfl, rfl⟩) ?_
      refine st_q (ok_indexAddr (sl rfl) (ty rfl) rfl rfl (by omega) (by omega) (off := n - k) (by omega) ⟨rfl, rfl, rfl⟩) ?_
      refine st_q (ok_load (ty rfl) rfl gq hrep ⟨rfl, rfl, rfl⟩) ?_
      refine st (ok_call rfl ent39 (rev0_ok) rfl ?_)
      rintro _ h20 N20 ⟨rfl, rfl, rfl⟩
      refine o_nil ?_
      refine n_then ?_
      obtain ⟨ws, gw, gwu, gwn⟩ := hF.cu
      refine c_draw mixed [0, 0, 0, 0, 0, 0, 0, 0, 0, 0, 2] 11 rfl [((0, 1), [((1, 2), [((2, 1), [((3, 2), [((4, 2), [((5, 2), [((6, 2), [((7, 1), [((8, 1), [((9, 2), [((10, 0), ())])])])])])])])])])])] (by kernel_rfl) (by kernel_rfl) ?_
      refine w_r rfl (fun _ _ hExt => ok_load (ty rfl) rfl (hExt _ _ g3) (by rfl) ⟨rfl, rfl, rfl⟩) ?_
      refine w_p rfl (fun _ _ => ok_move (v := .int _ _) rfl ⟨rfl, rfl, rfl⟩) ?_
      refine w_r rfl (fun h' N' hExt => ok_call rfl ent37 (col_ok (W := 1) (hExt _ _ gc) f0 f2 (by omega) (by decide) (by omega)) rfl (fun _ _ _ hR => hR)) ?_
      refine w_p rfl (fun _ _ => ok_move (v := .int _ _) rfl ⟨rfl, rfl, rfl⟩) ?_
      refine w_p rfl (fun _ _ => ok_move (v := .slice _ _ _) rfl ⟨rfl, rfl, rfl⟩) ?_
      refine w_p rfl (fun _ _ => ok_move (v := .int _ _) rfl ⟨rfl, rfl, rfl⟩) ?_
      refine w_p rfl (fun _ _ => ok_indexAddr (sl rfl) (ty rfl) rfl rfl (by omega) (by omega) (off := n - k) (by omega) ⟨rfl, rfl, rfl⟩) ?_
      refine w_r rfl (fun _ _ hExt => ok_load (ty rfl) rfl (hExt _ _ gq) hrep ⟨rfl, rfl, rfl⟩) ?_
      refine w_r rfl (fun _ _ hExt => ok_load (ty rfl) rfl (hExt _ _ g3) (by rfl) ⟨rfl, rfl, rfl⟩) ?_
      refine w_p rfl (fun _ _ => ok_makeFunc rfl rfl ⟨rfl, rfl, rfl⟩) ?_
      refine w_e rfl (ok_call rfl ent36 (union0_ok (W := 1) gw gwu (by omega) (by omega) (by decide)) rfl ?_)
      rintro _ h21 N21 ⟨rfl, rfl, x, rfl⟩
      refine ⟨trivial, ?_⟩
      refine w_nil ?_
      refine n_block (n_then ?_)
      refine c_region (by kernel_rfl) ?_
      refine st_q (ok_add rfl rfl (by omega) (by omega) ⟨rfl, rfl, rfl⟩) ?_
      refine st_q (ok_move (v := .int _ _) rfl ⟨rfl, rfl, rfl⟩) ?_
      refine o_nil ?_
      refine n_then ⟨k - 1, by omega, rfl, by omega, ⟨rfl, rfl, rfl, rfl, rfl, rfl, ?_, trivial⟩, hF.cset (show (!(Nat.beq 136 181) && (!false && noWords L)) = true from by rw [hLw]; rfl) gw⟩
      show Value.int .i64 (((n - k : Nat) : Int) + 1) = _
      congr 1; omega
    · skip
      refine c_exit ?_
      refine x_then (x_then (x_block ?_))
      refine n_leave ⟨dn, rfl, gd, leave_none rfl ⟨rfl, ?_⟩⟩
      intro d o h1 h2 h3
      rw [hset_ne _ _ (fun e => by rw [e, hdn] at h3; cases h3)]
      exact hF.x d o h1 h2 h3
end
end Sx
end Go.Proofs.YbulkcsqkGreatDoor
