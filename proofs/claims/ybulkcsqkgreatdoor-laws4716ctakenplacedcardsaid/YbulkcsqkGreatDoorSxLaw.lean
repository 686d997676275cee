import Derived.Test.YbulkcsqkGreatDoorSxPlain
namespace Go.Proofs.YbulkcsqkGreatDoor
namespace Sx
set_option maxRecDepth 10000
set_option maxHeartbeats 4000000
variable {w0 : World}

theorem Ext.back {h h' : Hp} (hx : Ext h h') {b : Nat} (hb : h' b = none) : h b = none := by
  cases e : h b with
  | none => rfl
  | some o => rw [hx _ _ e] at hb; cases hb
theorem made_get {z : Value} {n : Nat} : ∀ i, i < n → (madeCells #[z] (n * 1))[i]? = some z := by
  intro i hi
  rw [madeCells_one, Nat.mul_one]
  simp [hi]
theorem made_size {z : Value} {n : Nat} : (madeCells #[z] (n * 1)).size = n := by
  rw [madeCells_one]; simp
theorem madeCells_size2 {zs : Array Value} {n : Nat} : (madeCells zs n).size = n := by
  simp [madeCells]
theorem Blk.off {h : Hp} {N0 br bs bp n p b : Nat} {rc : Array Value} {V : Nat → Value} {S : Nat → List Nat} {o : Obj} (hb : Blk h N0 br bs bp n rc p V S) (h1 : b < N0) (h2 : b ≠ br) (h3 : b ≠ bs) (h4 : b ≠ bp) : Blk (hset h b o) N0 br bs bp n rc p V S := by
  obtain ⟨vs, s1, s2⟩ := hb.s
  obtain ⟨us, q1, q2⟩ := hb.q
  exact ⟨(hset_ne _ _ h2.symm).trans hb.r, ⟨vs, (hset_ne _ _ h3.symm).trans s1, s2⟩, ⟨us, (hset_ne _ _ h4.symm).trans q1, q2⟩, hb.g.low h1, hb.lr, hb.ls, hb.lp, hb.rs, hb.rp, hb.sp, z_set hb.z⟩

section
variable {h : Hp} {N x z L C ba oa : Nat} {ao : Option Addr} {pc : Array Value} {tp : TypeId} {fp : Nat × Nat} {fx fy : Nat → Nat}

theorem law_ok (hx : x ≤ 255) (hz : z ≤ 65535)
    (hp : ∀ j, j < L → ao = some ⟨ba, oa, none⟩ ∧ h ba = some (.cells pc tp fp) ∧ oa + j * 2 + 2 ≤ pc.size ∧ (pc.toList.drop (oa + j * 2)).take 2 = [.int .u8 (fx j : Int), .int .u8 (fy j : Int)] ∧ fx j ≤ 255 ∧ fy j ≤ 255) :
    CallsX Ybaz.prog w0 3 #[.int .u8 (x : Int), .slice ao L C, .int .u16 (z : Int)] h N (fun v h' _ => v = .bool true ∧ Ext h h') := by
  refine calls_of Ybaz.func3 rfl Ybaz.ntmps3 (Nat.le_of_ble_eq_true rfl) ?_
  refine c_seq ?_
  refine c_region (by kernel_rfl) ?_
  refine st_q (ok_assign (v := .bool _) rfl ⟨rfl, rfl, rfl⟩) ?_
  refine o_nil ?_
  refine n_then ?_
  refine c_seq ?_
  refine c_seq ?_
  refine c_region (by kernel_rfl) ?_
  refine st_q (ok_move (v := .slice _ _ _) rfl ⟨rfl, rfl, rfl⟩) ?_
  refine st_q (ok_len (sl rfl) rfl ⟨rfl, rfl, rfl⟩) ?_
  refine st_q (ok_gtr rfl rfl ⟨rfl, rfl, rfl⟩) ?_
  refine o_nil ?_
  refine n_then ?_
  refine c_cond_prop rfl (fun hc => ?_) (fun hc => ?_)
  · skip
    refine c_seq ?_
    refine c_region (by kernel_rfl) ?_
    refine st_q (ok_assign (v := .bool _) rfl ⟨rfl, rfl, rfl⟩) ?_
    refine o_nil ?_
    refine n_then ?_
    refine c_ret ?_
    exact r_then (r_leave (leave_tmp rfl rfl ⟨rfl, Ext.refl _⟩))
  have hL : L ≤ 512 := by omega
  clear hc
  obtain ⟨n, hn⟩ : ∃ n : Nat, (x : Int) % 40 + 2 = (n : Int) := ⟨x % 40 + 2, by omega⟩
  have hn2 : 2 ≤ n := by omega
  have hn41 : n ≤ 41 := by omega
  refine c_skip ?_
  refine n_then ?_
  refine c_seq ?_
  refine c_region (by kernel_rfl) ?_
  refine st_q (ok_move (v := .int _ _) rfl ⟨rfl, rfl, rfl⟩) ?_
  refine st_q (ok_convert (ik rfl) (ik rfl) rfl (wrap_i64 (by omega) (by omega)) ⟨rfl, rfl, rfl⟩) ?_
  refine st_q (ok_rem rfl rfl (by omega) (by omega) ⟨rfl, rfl, rfl⟩) ?_
  refine st_q (v := .int .i64 (n : Int)) (ok_add rfl rfl (by omega) (by omega) ⟨by rw [hn], rfl, rfl⟩) ?_
  refine st_q (ok_assign (v := .int _ _) rfl ⟨rfl, rfl, rfl⟩) ?_
  refine o_nil ?_
  refine n_then ?_
  refine c_seq ?_
  refine c_region (by kernel_rfl) ?_
  refine st_q (ok_move (v := .int _ _) rfl ⟨rfl, rfl, rfl⟩) ?_
  refine st (ok_makeSlice (sl rfl) (ty rfl) rfl rfl (by omega) (by omega) (by omega) (by omega) (l' := n) (c' := n) (by omega) (by omega) (fun hN35 => ?_))
  refine st_q (ok_assign (v := .slice _ _ _) rfl ⟨rfl, rfl, rfl⟩) ?_
  refine o_nil ?_
  refine n_then ?_
  refine c_seq ?_
  refine c_region (by kernel_rfl) ?_
  refine st_q (ok_move (v := .int _ _) rfl ⟨rfl, rfl, rfl⟩) ?_
  refine st (ok_makeSlice (sl rfl) (ty rfl) rfl rfl (by omega) (by omega) (by omega) (by omega) (l' := n) (c' := n) (by omega) (by omega) (fun hN37 => ?_))
  refine st_q (ok_assign (v := .slice _ _ _) rfl ⟨rfl, rfl, rfl⟩) ?_
  refine o_nil ?_
  refine n_then ?_
  refine c_seq ?_
  refine c_seq ?_
  have hfo : h (N + 1) = none := hN35 _ (by omega)
  refine c_heap (fun h' _ => Ext h h' ∧ ∃ oc, h' (N + 1) = some (.cells oc 3 (0, 0)) ∧ oc.size = n) ⟨(Ext.push hN35 _).trans (Ext.push hN37 _), _, hset_same _ _ _, made_size⟩ ?_
  rintro h1 N1 ⟨hx1, oc, go, gon⟩
  refine c_region (by kernel_rfl) ?_
  refine st_q (ok_move (v := .slice _ _ _) rfl ⟨rfl, rfl, rfl⟩) ?_
  refine st_q (ok_len (sl rfl) rfl ⟨rfl, rfl, rfl⟩) ?_
  refine st_q (ok_move (v := .int _ _) rfl ⟨rfl, rfl, rfl⟩) ?_
  refine o_nil ?_
  refine n_then ?_
  refine c_block ?_
  refine c_loop (fun k E h' _ D => D = [] ∧ k ≤ n ∧ Fr E [(1, .slice ao L C), (2, .int .u16 (z : Int)), (7, .int .i64 (n : Int)), (8, .slice (some ⟨N, 0, none⟩) n n), (9, .slice (some ⟨N + 1, 0, none⟩) n n), (39, .int .i64 (n : Int)), (40, .int .i64 ((n - k : Nat) : Int))] ∧ Ext h h' ∧ ∃ oc, h' (N + 1) = some (.cells oc 3 (0, 0)) ∧ oc.size = n ∧ ∀ i, i < n - k → oc[i]? = some (.int .i64 (i : Int))) (k := n) ⟨rfl, Nat.le_refl _, ⟨rfl, rfl, rfl, rfl, rfl, rfl, by simp [upd], trivial⟩, hx1, oc, go, gon, fun i hi => by omega⟩ ?_
  clear hx1 go gon oc
  rintro k E h2 N2 D ⟨rfl, hk, hE, hx2, oc, go, gon, gov⟩
  obtain ⟨E0, rfl⟩ := hE.ex
  refine c_seq ?_
  refine c_region (by kernel_rfl) ?_
  refine st_q (ok_lss rfl rfl ⟨rfl, rfl, rfl⟩) ?_
  refine o_nil ?_
  refine n_then ?_
  refine c_seq ?_
  refine c_cond_prop rfl (fun hc => ?_) (fun hc => ?_)
  · skip
    refine c_skip ?_
    refine n_then ?_
    refine c_seq ?_
    refine c_block ?_
    refine c_seq ?_
    refine c_region (by kernel_rfl) ?_
    refine st_q (ok_move (v := .int _ _) rfl ⟨rfl, rfl, rfl⟩) ?_
    refine st_q (ok_assign (v := .int _ _) rfl ⟨rfl, rfl, rfl⟩) ?_
    refine o_nil ?_
    refine n_then ?_
    refine c_region (by kernel_rfl) ?_
    refine st_q (ok_move (v := .slice _ _ _) rfl ⟨rfl, rfl, rfl⟩) ?_
    refine st_q (ok_move (v := .int _ _) rfl ⟨rfl, rfl, rfl⟩) ?_
    refine st_q (ok_move (v := .int _ _) rfl ⟨rfl, rfl, rfl⟩) ?_
    refine st_q (ok_indexAddr (sl rfl) (ty rfl) rfl rfl (by omega) (by omega) (off := n - k) (by omega) ⟨rfl, rfl, rfl⟩) ?_
    refine st0 (ok_store (ty rfl) rfl (v := .int _ _) rfl rfl go (by omega) ?_)
    refine o_nil ?_
    refine n_block (n_then ?_)
    refine c_region (by kernel_rfl) ?_
    refine st_q (ok_add rfl rfl (by omega) (by omega) ⟨rfl, rfl, rfl⟩) ?_
    refine st_q (ok_move (v := .int _ _) rfl ⟨rfl, rfl, rfl⟩) ?_
    refine o_nil ?_
    refine n_then ⟨k - 1, by omega, rfl, by omega, ⟨rfl, rfl, rfl, rfl, rfl, rfl, ?_, trivial⟩, hx2.fresh hfo _, _, hset_same _ _ _, by simp [gon], ?_⟩
    · show Value.int .i64 (((n - k : Nat) : Int) + 1) = _
      congr 1; omega
    · intro i hi
      by_cases e : i = n - k
      · subst e; exact setA_same _ _ (by omega)
      · rw [setA_ne _ _ (fun x => e x.symm)]; exact gov i (by omega)
  obtain rfl : k = 0 := by omega
  clear hc hk
  refine c_exit ?_
  refine x_then (x_then (x_block (n_then ?_)))
  refine c_seq ?_
  have gs0 := hset_same h2 N2 (.cells (madeCells #[.slice none 0 0] (n * 1)) 25 (0, 0))
  refine c_region (by kernel_rfl) ?_
  refine st_q (ok_move (v := .slice _ _ _) rfl ⟨rfl, rfl, rfl⟩) ?_
  refine st_q (ok_build rfl (v := .agg #[.slice (some ⟨N, 0, none⟩) n n, .slice none 0 0, .slice none 0 0, .slice none 0 0, .slice none 0 0, .slice none 0 0, .nilFunc, .nilFunc, .nilFunc]) (fun _ => by kernel_rfl) ⟨rfl, rfl, rfl⟩) ?_
  refine st_q (ok_move (v := .slice _ _ _) rfl ⟨rfl, rfl, rfl⟩) ?_
  refine st_q (ok_move (v := .int _ _) rfl ⟨rfl, rfl, rfl⟩) ?_
  refine st (ok_makeSlice (sl rfl) (ty rfl) rfl rfl (by omega) (by omega) (by omega) (by omega) (l' := n) (c' := n) (by omega) (by omega) (fun hN52 => ?_))
  refine st_q (ok_build rfl (v := .agg #[.slice (some ⟨N, 0, none⟩) n n, .slice (some ⟨N2, 0, none⟩) n n, .slice none 0 0, .slice none 0 0, .slice none 0 0]) (fun _ => by kernel_rfl) ⟨rfl, rfl, rfl⟩) ?_
  refine st_q (ok_move (v := .slice _ _ _) rfl ⟨rfl, rfl, rfl⟩) ?_
  refine st (ok_call rfl ent4 (newResolver_ok gs0 made_get (Ext.push hN52 _ _ _ go) gov gon (by omega) (by omega)) rfl ?_)
  rintro _ h3 N3 ⟨hx3, br, rfl, hbr, rc, bpl, bs, bp, pl, gr, gsz, q39, q51, q54, q55, q56, q57, gpl, gplv, gs, gp, hsp, hbs, hbp⟩
  refine st_q (ok_assign (v := .pointer _) rfl ⟨rfl, rfl, rfl⟩) ?_
  refine o_nil ?_
  have hx03 : Ext h h3 := (hx2.trans (Ext.push hN52 _)).trans hx3
  have hxX : Ext h (hset h2 N2 (.cells (madeCells #[.slice none 0 0] (n * 1)) 25 (0, 0))) := hx2.trans (Ext.push hN52 _)
  have hbr := hxX.back hbr
  have hbs := hxX.back hbs
  have hbp := hxX.back hbp
  clear hxX gs0 hx2 go gon gov
  refine n_then ?_
  refine c_seq ?_
  refine c_region (by kernel_rfl) ?_
  refine st_q (ok_move (v := .pointer _) rfl ⟨rfl, rfl, rfl⟩) ?_
  refine st_q (ok_nilCheck_ptr rfl ⟨rfl, rfl, rfl⟩) ?_
  refine st_q (ok_fieldAddr (fld rfl) rfl ⟨rfl, rfl, rfl⟩) ?_
  refine st_q (ok_load (ty rfl) rfl gr q39 ⟨rfl, rfl, rfl⟩) ?_
  refine st_q (ok_len (sl rfl) rfl ⟨rfl, rfl, rfl⟩) ?_
  refine st_q (ok_assign (v := .int _ _) rfl ⟨rfl, rfl, rfl⟩) ?_
  refine o_nil ?_
  refine n_then ?_
  refine c_seq ?_
  refine c_region (by kernel_rfl) ?_
  refine st_q (ok_move (v := .slice _ _ _) rfl ⟨rfl, rfl, rfl⟩) ?_
  refine st_q (ok_len (sl rfl) rfl ⟨rfl, rfl, rfl⟩) ?_
  refine st (ok_makeSlice (sl rfl) (ty rfl) rfl rfl (by omega) (by omega) (by omega) (by omega) (l' := 0) (c' := L) (by omega) (by omega) (fun hN63 => ?_))
  refine st_q (ok_assign (v := .slice _ _ _) rfl ⟨rfl, rfl, rfl⟩) ?_
  refine o_nil ?_
  refine n_then ?_
  refine c_seq ?_
  refine c_seq ?_
  have hfe : h3 N3 = none := hN63 _ (Nat.le_refl _)
  refine c_heap (fun h' _ => Ext h3 h' ∧ ∃ cs, h' N3 = some (.cells cs 74 (0, 0)) ∧ cs.size = L * 2) ⟨Ext.push hN63 _, _, hset_same _ _ _, madeCells_size2⟩ ?_
  rintro h4 N4 ⟨hx4, cs, ge, gen⟩
  refine c_region (by kernel_rfl) ?_
  refine st_q (ok_move (v := .slice _ _ _) rfl ⟨rfl, rfl, rfl⟩) ?_
  refine st_q (ok_len (sl rfl) rfl ⟨rfl, rfl, rfl⟩) ?_
  refine st_q (ok_move (v := .int _ _) rfl ⟨rfl, rfl, rfl⟩) ?_
  refine o_nil ?_
  refine n_then ?_
  refine c_block ?_
  refine c_loop (fun k E h' _ D => D = [] ∧ k ≤ L ∧ ∃ be ce cs, Fr E [(1, .slice ao L C), (2, .int .u16 (z : Int)), (7, .int .i64 (n : Int)), (11, .pointer (some ⟨br, 0, none⟩)), (12, .int .i64 ((0 : Nat) : Int)), (13, .slice (some ⟨be, 0, none⟩) (L - k) ce), (64, .slice ao L C), (65, .int .i64 (L : Int)), (66, .int .i64 ((L - k : Nat) : Int))] ∧ Ext h3 h' ∧ h3 be = none ∧ h' be = some (.cells cs 74 (0, 0)) ∧ cs.size = ce * 2 ∧ L - k ≤ ce ∧ cs.toList.take ((L - k) * 2) = ecs (fun j => eA n (fx j) (fy j)) (fun j => eB n (fx j) (fy j)) (L - k)) (k := L) ⟨rfl, Nat.le_refl _, N3, L, cs, ⟨rfl, rfl, rfl, rfl, rfl, (show Value.slice (some ⟨N3, 0, none⟩) 0 L = .slice (some ⟨N3, 0, none⟩) (L - L) L by rw [Nat.sub_self]), rfl, rfl, by simp [upd], trivial⟩, hx4, hfe, ge, gen, by omega, by simp [ecs]⟩ ?_
  clear hx4 ge gen cs hfe
  rintro k E h5 N5 D ⟨rfl, hk, be, ce, cs, hE, hx5, hfe, ge, gen, gel, gev⟩
  obtain ⟨E1, rfl⟩ := hE.ex
  refine c_seq ?_
  refine c_region (by kernel_rfl) ?_
  refine st_q (ok_lss rfl rfl ⟨rfl, rfl, rfl⟩) ?_
  refine o_nil ?_
  refine n_then ?_
  refine c_seq ?_
  refine c_cond_prop rfl (fun hc => ?_) (fun hc => ?_)
  · skip
    generalize hj : L - k = j at gel gev hc ⊢
    have hjL : j < L := by omega
    obtain ⟨rfl, hba, hbz, hbv, hfx, hfy⟩ := hp j hjL
    have hba := hx5 _ _ (hx03 _ _ hba)
    refine c_skip ?_
    refine n_then ?_
    refine c_seq ?_
    refine c_block ?_
    refine c_seq ?_
    refine c_region (by kernel_rfl) ?_
    refine st_q (ok_indexAddr (sl rfl) (ty rfl) rfl rfl (by omega) (by omega) (off := (oa + j * 2)) (by omega) ⟨rfl, rfl, rfl⟩) ?_
    refine st_q (ok_loadAgg (ty rfl) rfl hba (by omega) hbv ⟨rfl, rfl, rfl⟩) ?_
    refine st (ok_alloc (ty rfl) rfl (fun hN15 => ?_))
    refine st0 (ok_storeL (ty rfl) rfl (v := .agg _) rfl rfl rfl rfl (hset_same _ _ _) (Nat.le_of_ble_eq_true rfl) ?_)
    refine o_nil ?_
    refine n_then ?_
    refine c_seq ?_
    have hA : Ext h5 (hset h5 N5 (.cells #[.int .u8 (fx j : Int), .int .u8 (fy j : Int)] 72 (0, 0))) := Ext.push hN15 _
    rw [← hset_hset _ _ (Obj.cells #[.int .u8 0, .int .u8 0] 72 (0, 0)) _] at hA
    refine c_heap (fun h' _ => Ext h5 h' ∧ h' N5 = some (.cells #[.int .u8 (fx j : Int), .int .u8 (fy j : Int)] 72 (0, 0))) ⟨hA, hset_same _ _ _⟩ ?_
    clear hA
    rintro h6 N6 ⟨hx6, gpr⟩
    have e1 : ∀ a : Nat, (a : Int) % (n : Int) = ((a % n : Nat) : Int) := fun a => by simp
    refine c_region (by kernel_rfl) ?_
    refine st_q (ok_fieldAddr (fld rfl) rfl ⟨rfl, rfl, rfl⟩) ?_
    refine st_q (ok_load (ty rfl) rfl gpr (by rfl) ⟨rfl, rfl, rfl⟩) ?_
    refine st_q (ok_convert (ik rfl) (ik rfl) rfl (wrap_i64 (by omega) (by omega)) ⟨rfl, rfl, rfl⟩) ?_
    refine st_q (ok_move (v := .int _ _) rfl ⟨rfl, rfl, rfl⟩) ?_
    refine st_q (v := .int .i64 ((fx j % n : Nat) : Int)) (ok_rem rfl rfl (by omega) (by omega) ⟨by rw [e1], rfl, rfl⟩) ?_
    refine st_q (ok_assign (v := .int _ _) rfl ⟨rfl, rfl, rfl⟩) ?_
    refine o_nil ?_
    refine n_then ?_
    refine c_seq ?_
    refine c_region (by kernel_rfl) ?_
    refine st_q (ok_fieldAddr (fld rfl) rfl ⟨rfl, rfl, rfl⟩) ?_
    refine st_q (ok_load (ty rfl) rfl gpr (by rfl) ⟨rfl, rfl, rfl⟩) ?_
    refine st_q (ok_convert (ik rfl) (ik rfl) rfl (wrap_i64 (by omega) (by omega)) ⟨rfl, rfl, rfl⟩) ?_
    refine st_q (ok_move (v := .int _ _) rfl ⟨rfl, rfl, rfl⟩) ?_
    refine st_q (v := .int .i64 ((fy j % n : Nat) : Int)) (ok_rem rfl rfl (by omega) (by omega) ⟨by rw [e1], rfl, rfl⟩) ?_
    refine st_q (ok_assign (v := .int _ _) rfl ⟨rfl, rfl, rfl⟩) ?_
    refine o_nil ?_
    refine n_then ?_
    refine c_seq ?_
    have hlt1 : fx j % n < n := Nat.mod_lt _ (by omega)
    refine c_cut (fun E h' N' D => Fr E [(1, .slice (some ⟨ba, oa, none⟩) L C), (2, .int .u16 (z : Int)), (7, .int .i64 (n : Int)), (11, .pointer (some ⟨br, 0, none⟩)), (12, .int .i64 ((0 : Nat) : Int)), (13, .slice (some ⟨be, 0, none⟩) j ce), (16, .int .i64 ((fx j % n : Nat) : Int)), (17, .int .i64 ((eM n (fx j) (fy j) : Nat) : Int)), (64, .slice (some ⟨ba, oa, none⟩) L C), (65, .int .i64 (L : Int)), (66, .int .i64 (j : Int))] ∧ h' = h6 ∧ N' = N6 ∧ D = []) ?_ ?_
    · refine c_seq ?_
      refine c_region (by kernel_rfl) ?_
      refine st_q (ok_move (v := .int _ _) rfl ⟨rfl, rfl, rfl⟩) ?_
      refine st_q (ok_move (v := .int _ _) rfl ⟨rfl, rfl, rfl⟩) ?_
      refine st_q (ok_eql rfl rfl ⟨rfl, rfl, rfl⟩) ?_
      refine o_nil ?_
      refine n_then ?_
      refine c_cond_prop rfl (fun hq => ?_) (fun hq => ?_)
      · skip
        have hq : fx j % n = fy j % n := by omega
        refine c_region (by kernel_rfl) ?_
        refine st_q (ok_move (v := .int _ _) rfl ⟨rfl, rfl, rfl⟩) ?_
        refine st_q (ok_add rfl rfl (by omega) (by omega) ⟨rfl, rfl, rfl⟩) ?_
        refine st_q (ok_move (v := .int _ _) rfl ⟨rfl, rfl, rfl⟩) ?_
        refine st_q (v := .int .i64 (((fx j % n + 1) % n : Nat) : Int)) (ok_rem rfl rfl (by omega) (by omega) ⟨by rw [← e1]; rfl, rfl, rfl⟩) ?_
        refine st_q (ok_assign (v := .int _ _) rfl ⟨rfl, rfl, rfl⟩) ?_
        refine o_nil ?_
        refine n_then ⟨⟨rfl, rfl, rfl, rfl, rfl, rfl, rfl, ?_, rfl, rfl, rfl, trivial⟩, rfl, rfl, rfl⟩
        show Value.int .i64 (((fx j % n + 1) % n : Nat) : Int) = _
        rw [eM, if_pos hq]
      · have hq : ¬ fx j % n = fy j % n := by omega
        refine c_skip (n_then ⟨⟨rfl, rfl, rfl, rfl, rfl, rfl, rfl, ?_, rfl, rfl, rfl, trivial⟩, rfl, rfl, rfl⟩)
        show Value.int .i64 ((fy j % n : Nat) : Int) = _
        rw [eM, if_neg hq]
    rintro E h7 N7 D ⟨hE, rfl, rfl, rfl⟩
    obtain ⟨E2, rfl⟩ := hE.ex
    refine n_then ?_
    refine c_seq ?_
    refine c_cut (fun E h' N' D => Fr E [(1, .slice (some ⟨ba, oa, none⟩) L C), (2, .int .u16 (z : Int)), (7, .int .i64 (n : Int)), (11, .pointer (some ⟨br, 0, none⟩)), (12, .int .i64 ((0 : Nat) : Int)), (13, .slice (some ⟨be, 0, none⟩) j ce), (16, .int .i64 ((eA n (fx j) (fy j) : Nat) : Int)), (17, .int .i64 ((eB n (fx j) (fy j) : Nat) : Int)), (64, .slice (some ⟨ba, oa, none⟩) L C), (65, .int .i64 (L : Int)), (66, .int .i64 (j : Int))] ∧ h' = h7 ∧ N' = N7 ∧ D = []) ?_ ?_
    · refine c_seq ?_
      refine c_region (by kernel_rfl) ?_
      refine st_q (ok_move (v := .int _ _) rfl ⟨rfl, rfl, rfl⟩) ?_
      refine st_q (ok_move (v := .int _ _) rfl ⟨rfl, rfl, rfl⟩) ?_
      refine st_q (ok_gtr rfl rfl ⟨rfl, rfl, rfl⟩) ?_
      refine o_nil ?_
      refine n_then ?_
      refine c_cond_prop rfl (fun hq => ?_) (fun hq => ?_)
      · skip
        have hq : eM n (fx j) (fy j) < fx j % n := by omega
        refine c_region (by kernel_rfl) ?_
        refine st_q (ok_move (v := .int _ _) rfl ⟨rfl, rfl, rfl⟩) ?_
        refine st_q (ok_move (v := .int _ _) rfl ⟨rfl, rfl, rfl⟩) ?_
        refine st_q (ok_assign (v := .int _ _) rfl ⟨rfl, rfl, rfl⟩) ?_
        refine st_q (ok_assign (v := .int _ _) rfl ⟨rfl, rfl, rfl⟩) ?_
        refine o_nil ?_
        refine n_then ⟨⟨rfl, rfl, rfl, rfl, rfl, rfl, ?_, ?_, rfl, rfl, rfl, trivial⟩, rfl, rfl, rfl⟩
        · show Value.int .i64 ((eM n (fx j) (fy j) : Nat) : Int) = _
          rw [eA, if_pos hq]
        · show Value.int .i64 ((fx j % n : Nat) : Int) = _
          rw [eB, if_pos hq]
      · have hq : ¬ eM n (fx j) (fy j) < fx j % n := by omega
        refine c_skip (n_then ⟨⟨rfl, rfl, rfl, rfl, rfl, rfl, ?_, ?_, rfl, rfl, rfl, trivial⟩, rfl, rfl, rfl⟩)
        · show Value.int .i64 ((fx j % n : Nat) : Int) = _
          rw [eA, if_neg hq]
        · show Value.int .i64 ((eM n (fx j) (fy j) : Nat) : Int) = _
          rw [eB, if_neg hq]
    rintro E h8 N8 D ⟨hE, rfl, rfl, rfl⟩
    obtain ⟨E3, rfl⟩ := hE.ex
    refine n_then ?_
    have hel := ecs_len (fun j => eA n (fx j) (fy j)) (fun j => eB n (fx j) (fy j)) j
    have ge6 := hx6 _ _ ge
    have gnw := hset_same h8 N8 (.cells #[.int .i64 ((eA n (fx j) (fy j) : Nat) : Int), .int .i64 ((eB n (fx j) (fy j) : Nat) : Int)] 74 (0, 0))
    have own : ∀ hh, Ext h8 hh → Own hh 74 2 (.slice (some ⟨be, 0, none⟩) j ce) (ecs (fun j => eA n (fx j) (fy j)) (fun j => eB n (fx j) (fy j)) j) := fun hh hxh => .inr ⟨be, j, ce, cs, rfl, hxh _ _ ge6, gen, gel, hel, gev⟩
    refine c_region (by kernel_rfl) ?_
    refine st_q (ok_move (v := .slice _ _ _) rfl ⟨rfl, rfl, rfl⟩) ?_
    refine st_q (ok_move (v := .int _ _) rfl ⟨rfl, rfl, rfl⟩) ?_
    refine st_q (ok_move (v := .int _ _) rfl ⟨rfl, rfl, rfl⟩) ?_
    refine st_q (ok_build rfl (v := .agg #[.int .i64 ((eA n (fx j) (fy j) : Nat) : Int), .int .i64 ((eB n (fx j) (fy j) : Nat) : Int)]) (fun _ => by kernel_rfl) ⟨rfl, rfl, rfl⟩) ?_
    refine st (ok_buildSlice (sl rfl) (ty rfl) rfl (vs := #[.int .i64 ((eA n (fx j) (fy j) : Nat) : Int), .int .i64 ((eB n (fx j) (fy j) : Nat) : Int)]) (by kernel_rfl) (by decide) (by decide) (fun hN96 => ?_))
    refine st (ok_append rfl (sl rfl) (ty rfl) rfl rfl (own _ (Ext.push hN96 _)) rfl gnw (Nat.le_of_ble_eq_true rfl) (by simp [isOne]) (by decide) (by decide) (by omega) (by omega) (fun b' n' c' cs' N' hcase hcz hnc hln htk hnq => ?_))
    refine st_q (ok_assign (v := .slice _ _ _) rfl ⟨rfl, rfl, rfl⟩) ?_
    refine o_nil ?_
    refine n_block (n_then ?_)
    refine c_region (by kernel_rfl) ?_
    refine st_q (ok_add rfl rfl (by omega) (by omega) ⟨rfl, rfl, rfl⟩) ?_
    refine st_q (ok_move (v := .int _ _) rfl ⟨rfl, rfl, rfl⟩) ?_
    refine o_nil ?_
    have hx8 : Ext h3 (hset h8 N8 (.cells #[.int .i64 ((eA n (fx j) (fy j) : Nat) : Int), .int .i64 ((eB n (fx j) (fy j) : Nat) : Int)] 74 (0, 0))) := (hx5.trans hx6).trans (Ext.push hN96 _)
    have hb3 : h3 b' = none := by
      rcases hcase with ⟨rfl, _, hf⟩ | ⟨_, _, _, _, e, _⟩
      · exact hx8.back (hf _ (Nat.le_refl _))
      · cases e; exact hfe
    have hnj : n' = j + 1 := by omega
    subst hnj
    have hj1 : L - (k - 1) = j + 1 := by omega
    refine n_then ⟨k - 1, by omega, rfl, by omega, b', c', cs', ⟨rfl, rfl, rfl, rfl, rfl, ?_, rfl, rfl, ?_, trivial⟩, hx8.fresh hb3 _, hb3, hset_same _ _ _, hcz, by omega, ?_⟩
    · rw [hj1]; rfl
    · rw [hj1]; rfl
    · rw [hj1, htk]; rfl
  obtain rfl : k = 0 := by omega
  clear hc hk hp
  rw [Nat.sub_zero] at gel gev
  generalize hfa : (fun j => eA n (fx j) (fy j)) = fa at gev
  generalize hfb : (fun j => eB n (fx j) (fy j)) = fb at gev
  have hf : ∀ j, fa j < fb j ∧ fb j < n := fun j => by rw [← hfa, ← hfb]; exact eAB hn2 _ _
  clear hfa hfb
  refine c_exit ?_
  refine x_then (x_then (x_block (n_then ?_)))
  refine c_seq ?_
  obtain ⟨kk, hkk⟩ : ∃ kk, kk = z % (L + 1) := ⟨_, rfl⟩
  have hkL : kk ≤ L := by have := Nat.mod_lt z (show 0 < L + 1 by omega); omega
  have ek : (z : Int) % ((L : Int) + 1) = (kk : Int) := by rw [hkk]; simp
  rw [Nat.sub_zero]
  refine c_region (by kernel_rfl) ?_
  refine st_q (ok_move (v := .int _ _) rfl ⟨rfl, rfl, rfl⟩) ?_
  refine st_q (ok_convert (ik rfl) (ik rfl) rfl (wrap_i64 (by omega) (by omega)) ⟨rfl, rfl, rfl⟩) ?_
  refine st_q (ok_move (v := .slice _ _ _) rfl ⟨rfl, rfl, rfl⟩) ?_
  refine st_q (ok_len (sl rfl) rfl ⟨rfl, rfl, rfl⟩) ?_
  refine st_q (ok_add rfl rfl (by omega) (by omega) ⟨rfl, rfl, rfl⟩) ?_
  refine st_q (v := .int .i64 (kk : Int)) (ok_rem rfl rfl (by omega) (by omega) ⟨by rw [ek], rfl, rfl⟩) ?_
  refine st_q (ok_assign (v := .int _ _) rfl ⟨rfl, rfl, rfl⟩) ?_
  refine o_nil ?_
  refine n_then ?_
  refine c_seq ?_
  have gr := hx5 _ _ gr
  have gpl := hx5 _ _ gpl
  have gs := hx5 _ _ gs
  have gp := hx5 _ _ gp
  have hx05 : Ext h h5 := hx03.trans hx5
  have hne : be ≠ br := ne_of_ty ge gr rfl
  have hhe : h be = none := hx03.back hfe
  clear hx5 hx03 hfe
  refine c_cut (fun E h' _ D => D = [] ∧ Fr E [(7, .int .i64 (n : Int)), (11, .pointer (some ⟨br, 0, none⟩)), (12, .int .i64 ((0 : Nat) : Int)), (13, .slice (some ⟨be, 0, none⟩) L ce), (18, .int .i64 (kk : Int))] ∧ ∃ a2 bt ct tcs, h' br = some (.cells (setA rc 39 (.slice a2 L ct)) 70 (0, 0)) ∧ ExtBut br h5 h' ∧ (0 < L → a2 = some ⟨bt, 0, none⟩) ∧ (0 < L → h' bt = some (.cells tcs 74 (0, 0))) ∧ L * 2 ≤ tcs.size ∧ tcs.toList.take (L * 2) = ecs fa fb L) ?_ ?_
  · by_cases hL0 : L = 0
    · subst hL0
      refine c_region (by kernel_rfl) ?_
      refine st_q (ok_move (v := .pointer _) rfl ⟨rfl, rfl, rfl⟩) ?_
      refine st_q (ok_move (v := .pointer _) rfl ⟨rfl, rfl, rfl⟩) ?_
      refine st_q (ok_nilCheck_ptr rfl ⟨rfl, rfl, rfl⟩) ?_
      refine st_q (ok_fieldAddr (fld rfl) rfl ⟨rfl, rfl, rfl⟩) ?_
      refine st_q (ok_load (ty rfl) rfl gr q39 ⟨rfl, rfl, rfl⟩) ?_
      refine st_q (ok_move (v := .slice _ _ _) rfl ⟨rfl, rfl, rfl⟩) ?_
      refine st (ok_append_none rfl (sl rfl) (ty rfl) rfl rfl (Nat.le_refl _) ?_)
      refine st_q (ok_nilCheck_ptr rfl ⟨rfl, rfl, rfl⟩) ?_
      refine st_q (ok_fieldAddr (fld rfl) rfl ⟨rfl, rfl, rfl⟩) ?_
      refine st0 (ok_store (ty rfl) rfl (v := .slice _ _ _) rfl rfl gr (by omega) ?_)
      refine o_nil ?_
      exact n_then ⟨rfl, ⟨rfl, rfl, rfl, rfl, rfl, trivial⟩, none, 0, 0, #[], hset_same _ _ _, (ExtBut.refl br h5).set _, fun h => absurd h (by decide), fun h => absurd h (by decide), Nat.le_refl _, rfl⟩
    · have hel := ecs_len fa fb L
      have hext : (cs.extract 0 (0 + L * 2)).toList = ecs fa fb L := by rw [← gev, extract_list, List.drop_zero]
      refine c_region (by kernel_rfl) ?_
      refine st_q (ok_move (v := .pointer _) rfl ⟨rfl, rfl, rfl⟩) ?_
      refine st_q (ok_move (v := .pointer _) rfl ⟨rfl, rfl, rfl⟩) ?_
      refine st_q (ok_nilCheck_ptr rfl ⟨rfl, rfl, rfl⟩) ?_
      refine st_q (ok_fieldAddr (fld rfl) rfl ⟨rfl, rfl, rfl⟩) ?_
      refine st_q (ok_load (ty rfl) rfl gr q39 ⟨rfl, rfl, rfl⟩) ?_
      refine st_q (ok_move (v := .slice _ _ _) rfl ⟨rfl, rfl, rfl⟩) ?_
      refine st (ok_append rfl (sl rfl) (ty rfl) rfl rfl (.inl ⟨rfl, rfl⟩) rfl ge (by omega) (by rw [hext]; exact ecs_one fa fb L) (by omega) (by decide) (by simp only [List.length_nil]; omega) (by simp only [List.length_nil]; omega) (fun b' n' c' cs' N' hcase hcz hnc hln htk hnq => ?_))
      rcases hcase with ⟨rfl, _, hfr⟩ | ⟨_, _, _, _, e, _⟩
      · have hnL : n' = L := by simp only [List.length_nil] at hnq; omega
        subst hnL
        have hxb := Ext.push hfr (.cells cs' 74 (0, 0))
        refine st_q (ok_nilCheck_ptr rfl ⟨rfl, rfl, rfl⟩) ?_
        refine st_q (ok_fieldAddr (fld rfl) rfl ⟨rfl, rfl, rfl⟩) ?_
        refine st0 (ok_store (ty rfl) rfl (v := .slice _ _ _) rfl rfl (hxb _ _ gr) (by omega) ?_)
        refine o_nil ?_
        refine n_then ⟨rfl, ⟨rfl, rfl, rfl, rfl, rfl, trivial⟩, _, _, c', cs', hset_same _ _ _, ?_, fun _ => rfl, fun _ => ?_, by omega, by rw [htk, hext]; rfl⟩
        · exact (hxb.but br).set _
        · have hbb := hset_same h5 b' (.cells cs' 74 (0, 0))
          exact (hset_ne _ _ (ne_of_ty hbb (hxb _ _ gr) rfl)).trans hbb
      · cases e
  rintro E h6 N6 D ⟨rfl, hE, a2, bt, ct, tcs, gr6, hx6, ha2, gt, gtn, gtv⟩
  obtain ⟨E2, rfl⟩ := hE.ex
  refine n_then ?_
  refine c_seq ?_
  refine c_region (by kernel_rfl) ?_
  refine st_q (ok_move (v := .pointer _) rfl ⟨rfl, rfl, rfl⟩) ?_
  refine st_q (ok_move (v := .int _ _) rfl ⟨rfl, rfl, rfl⟩) ?_
  refine st_q (ok_move (v := .int _ _) rfl ⟨rfl, rfl, rfl⟩) ?_
  refine st_q (v := .int .i64 (kk : Int)) (ok_add rfl rfl (by omega) (by omega) ⟨by simp, rfl, rfl⟩) ?_
  refine st_q (ok_nilCheck_ptr rfl ⟨rfl, rfl, rfl⟩) ?_
  refine st_q (ok_fieldAddr (fld rfl) rfl ⟨rfl, rfl, rfl⟩) ?_
  refine st0 (ok_store (ty rfl) rfl (v := .int _ _) rfl rfl gr6 (by rw [setA_size]; omega) ?_)
  refine o_nil ?_
  refine n_then ?_
  refine c_seq ?_
  have gpl6 := hx6 _ _ (ne_of_ty gpl gr rfl) gpl
  have gs6 := hx6 _ _ (ne_of_ty gs gr rfl) gs
  have gp6 := hx6 _ _ (ne_of_ty gp gr rfl) gp
  have ge6 := hx6 _ _ hne ge
  have gsb := ne_of_ty gs gr rfl
  have gpb := ne_of_ty gp gr rfl
  have gplb := ne_of_ty gpl gr rfl
  have hext6 : Ext h h6 := fun c o hc => hx6 _ _ (fun e => by rw [e, hbr] at hc; cases hc) (hx05 _ _ hc)
  have hbtr : 0 < L → bt ≠ br := fun hl => ne_of_ty (gt hl) gr6 rfl
  refine c_heap (fun h' _ => h' br = some (.cells (setA (setA rc 39 (.slice a2 L ct)) 56 (.int .i64 (kk : Int))) 70 (0, 0)) ∧ Ext h h' ∧ h' bpl = some (.cells pl 3 (0, 0)) ∧ h' bs = some (.cells (Array.replicate n (.slice none 0 0)) 25 (0, 0)) ∧ h' bp = some (.cells (Array.replicate n (.slice none 0 0)) 25 (0, 0)) ∧ h' be = some (.cells cs 74 (0, 0)) ∧ (0 < L → h' bt = some (.cells tcs 74 (0, 0)))) ⟨hset_same _ _ _, hext6.fresh hbr _, (hset_ne _ _ gplb).trans gpl6, (hset_ne _ _ gsb).trans gs6, (hset_ne _ _ gpb).trans gp6, (hset_ne _ _ hne).trans ge6, fun hl => (hset_ne _ _ (hbtr hl)).trans (gt hl)⟩ ?_
  clear gr gr6 gpl6 gs6 gp6 ge6 hext6 gpl gs gp ge gt hx6 hx05
  rintro h7 N7 ⟨gr, hx7, gpl, gs, gp, ge, gt⟩
  refine c_region (by kernel_rfl) ?_
  refine st_q (ok_move (v := .int _ _) rfl ⟨rfl, rfl, rfl⟩) ?_
  refine st (ok_makeSlice (sl rfl) (ty rfl) rfl rfl (by omega) (by omega) (by omega) (by omega) (l' := n) (c' := n) (by omega) (by omega) (fun hN121 => ?_))
  refine st_q (ok_assign (v := .slice _ _ _) rfl ⟨rfl, rfl, rfl⟩) ?_
  refine o_nil ?_
  refine n_then ?_
  refine c_seq ?_
  refine c_region (by kernel_rfl) ?_
  refine st_q (ok_move (v := .int _ _) rfl ⟨rfl, rfl, rfl⟩) ?_
  refine st (ok_makeSlice (sl rfl) (ty rfl) rfl rfl (by omega) (by omega) (by omega) (by omega) (l' := n) (c' := n) (by omega) (by omega) (fun hN123 => ?_))
  refine st_q (ok_assign (v := .slice _ _ _) rfl ⟨rfl, rfl, rfl⟩) ?_
  refine o_nil ?_
  refine n_then ?_
  refine c_seq ?_
  refine c_seq ?_
  have hlt : ∀ c o, h7 c = some o → c < N7 := fun c o hc => lt_of_free hN121 hc
  have hfs : h N7 = none := hx7.back (hN121 _ (Nat.le_refl _))
  have hfp : h (N7 + 1) = none := hx7.back (hN121 _ (by omega))
  have hxx := (Ext.push hN121 (.cells (madeCells #[.int .i64 0] (n * 1)) 3 (0, 0))).trans (Ext.push hN123 (.cells (madeCells #[.int .i64 0] (n * 1)) 3 (0, 0)))
  refine c_heap (fun h' _ => Ext h7 h' ∧ h' N7 = some (.cells (madeCells #[.int .i64 0] (n * 1)) 3 (0, 0)) ∧ h' (N7 + 1) = some (.cells (madeCells #[.int .i64 0] (n * 1)) 3 (0, 0))) ⟨hxx, Ext.push hN123 _ _ _ (hset_same _ _ _), hset_same _ _ _⟩ ?_
  clear hxx
  rintro h8 N8 ⟨hx8, gsc, gpc⟩
  refine c_region (by kernel_rfl) ?_
  refine st_q (ok_assign (v := .int _ _) rfl ⟨rfl, rfl, rfl⟩) ?_
  refine o_nil ?_
  refine n_then ?_
  refine c_block ?_
  refine c_loop (fun k E h' _ D => D = [] ∧ k ≤ n ∧ Fr E [(7, .int .i64 (n : Int)), (11, .pointer (some ⟨br, 0, none⟩)), (13, .slice (some ⟨be, 0, none⟩) L ce), (18, .int .i64 (kk : Int)), (19, .slice (some ⟨N7, 0, none⟩) n n), (20, .slice (some ⟨N7 + 1, 0, none⟩) n n), (21, .int .i64 ((n - k : Nat) : Int))] ∧ (∀ c, c ≠ N7 → c ≠ N7 + 1 → h' c = h8 c) ∧ (∃ ss, h' N7 = some (.cells ss 3 (0, 0)) ∧ ss.size = n ∧ ∀ i, i < n → ss[i]? = some (.int .i64 ((0 : Nat) : Int))) ∧ ∃ ss, h' (N7 + 1) = some (.cells ss 3 (0, 0)) ∧ ss.size = n ∧ ∀ i, i < n → ss[i]? = some (.int .i64 ((0 : Nat) : Int))) (k := n) ⟨rfl, Nat.le_refl _, ⟨rfl, rfl, rfl, rfl, rfl, rfl, by simp [upd], trivial⟩, fun _ _ _ => rfl, ⟨_, gsc, made_size, made_get⟩, _, gpc, made_size, made_get⟩ ?_
  clear gsc gpc
  rintro k E h9 N9 D ⟨rfl, hk, hE, hsm, ⟨ss, gsc, gscn, gscv⟩, ps, gpc, gpcn, gpcv⟩
  obtain ⟨E3, rfl⟩ := hE.ex
  have up : ∀ c o, h7 c = some o → h9 c = some o := fun c o hc => by
    have := hlt c o hc
    rw [hsm c (by omega) (by omega)]; exact hx8 _ _ hc
  have gr9 := up _ _ gr
  have gs9 := up _ _ gs
  have gp9 := up _ _ gp
  have gg : ∀ (i : Nat) (v : Value), 56 ≠ i → 39 ≠ i → rc[i]? = some v → (setA (setA rc 39 (.slice a2 L ct)) 56 (.int .i64 (kk : Int)))[0 + i]? = some v := by
    intro i v h1 h2 h3
    rw [Nat.zero_add, setA_ne _ _ h1, setA_ne _ _ h2]; exact h3
  refine c_seq ?_
  refine c_seq ?_
  refine c_region (by kernel_rfl) ?_
  refine st_q (ok_move (v := .int _ _) rfl ⟨rfl, rfl, rfl⟩) ?_
  refine st_q (ok_move (v := .int _ _) rfl ⟨rfl, rfl, rfl⟩) ?_
  refine st_q (ok_lss rfl rfl ⟨rfl, rfl, rfl⟩) ?_
  refine o_nil ?_
  refine n_then ?_
  refine c_cond_prop rfl (fun hc => ?_) (fun hc => ?_)
  · skip
    have hki : n - k < n := by omega
    have hrep : (Array.replicate n (Value.slice none 0 0))[n - k]? = some (.slice none 0 0) := by simp [hki]
    have z1 : ∀ (ss : Array Value), ss.size = n → (∀ i, i < n → ss[i]? = some (.int .i64 ((0 : Nat) : Int))) → ∀ i, i < n → (setA ss (n - k) (.int .i64 ((0 : Nat) : Int)))[i]? = some (.int .i64 ((0 : Nat) : Int)) := by
      intro ss h1 h2 i hi
      by_cases e : i = n - k
      · subst e; exact setA_same _ _ (by omega)
      · rw [setA_ne _ _ (fun x => e x.symm)]; exact h2 i hi
    refine c_skip ?_
    refine n_then ?_
    refine c_seq ?_
    refine c_block ?_
    refine c_seq ?_
    refine c_region (by kernel_rfl) ?_
    refine st_q (ok_move (v := .slice _ _ _) rfl ⟨rfl, rfl, rfl⟩) ?_
    refine st_q (ok_move (v := .int _ _) rfl ⟨rfl, rfl, rfl⟩) ?_
    refine st_q (ok_move (v := .pointer _) rfl ⟨rfl, rfl, rfl⟩) ?_
    refine st_q (ok_nilCheck_ptr rfl ⟨rfl, rfl, rfl⟩) ?_
    refine st_q (ok_fieldAddr (fld rfl) rfl ⟨rfl, rfl, rfl⟩) ?_
    refine st_q (ok_load (ty rfl) rfl gr9 (gg _ _ (by decide) (by decide) q54) ⟨rfl, rfl, rfl⟩) ?_
    refine st_q (ok_move (v := .int _ _) rfl ⟨rfl, rfl, rfl⟩) ?_
    refine st_q (ok_indexAddr (sl rfl) (ty rfl) rfl rfl (by omega) (by omega) (off := n - k) (by omega) ⟨rfl, rfl, rfl⟩) ?_
    refine st_q (ok_load (ty rfl) rfl gs9 hrep ⟨rfl, rfl, rfl⟩) ?_
    refine st_q (ok_len (sl rfl) rfl ⟨rfl, rfl, rfl⟩) ?_
    refine st_q (ok_indexAddr (sl rfl) (ty rfl) rfl rfl (by omega) (by omega) (off := n - k) (by omega) ⟨rfl, rfl, rfl⟩) ?_
    refine st0 (ok_store (ty rfl) rfl (v := .int _ _) rfl rfl gsc (by omega) ?_)
    refine o_nil ?_
    refine n_then ?_
    have n1 : br ≠ N7 := fun e => by have := hlt _ _ gr; omega
    have n2 : bp ≠ N7 := fun e => by have := hlt _ _ gp; omega
    have n3 : N7 + 1 ≠ N7 := by omega
    have n4 : N7 ≠ N7 + 1 := by omega
    refine c_region (by kernel_rfl) ?_
    refine st_q (ok_move (v := .slice _ _ _) rfl ⟨rfl, rfl, rfl⟩) ?_
    refine st_q (ok_move (v := .int _ _) rfl ⟨rfl, rfl, rfl⟩) ?_
    refine st_q (ok_move (v := .pointer _) rfl ⟨rfl, rfl, rfl⟩) ?_
    refine st_q (ok_nilCheck_ptr rfl ⟨rfl, rfl, rfl⟩) ?_
    refine st_q (ok_fieldAddr (fld rfl) rfl ⟨rfl, rfl, rfl⟩) ?_
    refine st_q (ok_load (ty rfl) rfl ((hset_ne _ _ n1).trans gr9) (gg _ _ (by decide) (by decide) q55) ⟨rfl, rfl, rfl⟩) ?_
    refine st_q (ok_move (v := .int _ _) rfl ⟨rfl, rfl, rfl⟩) ?_
    refine st_q (ok_indexAddr (sl rfl) (ty rfl) rfl rfl (by omega) (by omega) (off := n - k) (by omega) ⟨rfl, rfl, rfl⟩) ?_
    refine st_q (ok_load (ty rfl) rfl ((hset_ne _ _ n2).trans gp9) hrep ⟨rfl, rfl, rfl⟩) ?_
    refine st_q (ok_len (sl rfl) rfl ⟨rfl, rfl, rfl⟩) ?_
    refine st_q (ok_indexAddr (sl rfl) (ty rfl) rfl rfl (by omega) (by omega) (off := n - k) (by omega) ⟨rfl, rfl, rfl⟩) ?_
    refine st0 (ok_store (ty rfl) rfl (v := .int _ _) rfl rfl ((hset_ne _ _ n3).trans gpc) (by omega) ?_)
    refine o_nil ?_
    refine n_block (n_then ?_)
    refine c_region (by kernel_rfl) ?_
    refine st_q (ok_move (v := .int _ _) rfl ⟨rfl, rfl, rfl⟩) ?_
    refine st_q (ok_add rfl rfl (by omega) (by omega) ⟨rfl, rfl, rfl⟩) ?_
    refine st_q (ok_assign (v := .int _ _) rfl ⟨rfl, rfl, rfl⟩) ?_
    refine o_nil ?_
    refine n_then ⟨k - 1, by omega, rfl, by omega, ⟨rfl, rfl, rfl, rfl, rfl, rfl, ?_, trivial⟩, ?_, ⟨_, (hset_ne _ _ n4).trans (hset_same _ _ _), by rw [setA_size]; exact gscn, z1 ss gscn gscv⟩, _, hset_same _ _ _, by rw [setA_size]; exact gpcn, z1 ps gpcn gpcv⟩
    · show Value.int .i64 (((n - k : Nat) : Int) + 1) = _
      congr 1; omega
    · intro c h1 h2
      rw [hset_ne _ _ h2, hset_ne _ _ h1]; exact hsm c h1 h2
  obtain rfl : k = 0 := by omega
  clear hc hk
  refine c_exit ?_
  refine x_then (x_then (x_block (n_then ?_)))
  refine c_seq ?_
  have gpl9 := up _ _ gpl
  have ge9 := up _ _ ge
  have hrn : ∀ i, i < n → (Array.replicate n (Value.slice none 0 0))[i]? = some (.slice none 0 0) := fun i hi => by simp [hi]
  have hB : Blk h9 (N7 + 1 + 1) br bs bp n (setA rc 39 (.slice a2 L ct)) kk (fun _ => .slice none 0 0) (fun _ => []) := by
    refine ⟨gr9, ⟨_, gs9, by simp, hrn⟩, ⟨_, gp9, by simp, hrn⟩, ⟨fun _ _ => .inl ⟨rfl, rfl⟩, fun _ _ _ e => (by cases e), fun _ _ _ _ _ e => (by cases e)⟩, ?_, ?_, ?_, gsb.symm, gpb.symm, hsp, ⟨N7 + 1, rfl, _, gpc⟩⟩
    · have := hlt _ _ gr; omega
    · have := hlt _ _ gs; omega
    · have := hlt _ _ gp; omega
  have hst : ∀ i, 39 ≠ i → (setA rc 39 (.slice a2 L ct))[i]? = rc[i]? := fun i hi => setA_ne _ _ hi
  have hsz1 : (setA rc 39 (.slice a2 L ct)).size = 83 := by rw [setA_size]; exact gsz
  have f39 : (setA rc 39 (.slice a2 L ct))[39]? = some (.slice a2 L ct) := setA_same _ _ (by omega)
  refine c_region (by kernel_rfl) ?_
  refine st_q (ok_move (v := .pointer _) rfl ⟨rfl, rfl, rfl⟩) ?_
  refine st (ok_call rfl ent5 (blocked_ok (bt := bt) (bpl := bpl) (tc := tcs) (tt := 74) (ft := (0, 0)) (fa := fa) (fb := fb) (pl := pl) (m := L) hB hsz1 f39 ha2 ((hst _ (by decide)).trans q54) ((hst _ (by decide)).trans q55) ((hst _ (by decide)).trans q51) ((hst _ (by decide)).trans q57) gpl9 gplv (fun hl => up _ _ (gt hl)) gtn (row_get gtv) (fun j _ => hf j) (fun hl => ⟨by have := hlt _ _ (gt hl); omega, ne_of_ty (gt hl) gr rfl, ne_of_ty (gt hl) gs rfl, ne_of_ty (gt hl) gp rfl⟩) ⟨by have := hlt _ _ gpl; omega, ne_of_ty gpl gr rfl, ne_of_ty gpl gs rfl, ne_of_ty gpl gp rfl⟩ (by omega) (by omega) hkL) rfl ?_)
  rintro _ h10 N10 ⟨rfl, hkeep, V, hB⟩
  refine st_q (ok_move (v := .tuple _) rfl ⟨rfl, rfl, rfl⟩) ?_
  refine st_q (ok_extract rfl rfl ⟨rfl, rfl, rfl⟩) ?_
  refine st_q (ok_extract rfl rfl ⟨rfl, rfl, rfl⟩) ?_
  refine st (ok_alloc (ty rfl) rfl (fun hN22 => ?_))
  refine st0 (ok_storeL (ty rfl) rfl (v := .agg _) rfl rfl rfl rfl (hset_same _ _ _) (Nat.le_of_ble_eq_true rfl) ?_)
  refine st_q (ok_assign (v := .bool _) rfl ⟨rfl, rfl, rfl⟩) ?_
  refine o_nil ?_
  refine n_then ?_
  refine c_seq ?_
  refine c_seq ?_
  have hA : Ext h10 (hset h10 N10 (.cells zero76 76 (0, 0))) := Ext.push hN22 _
  rw [← hset_hset _ _ (Obj.cells #[.int .i64 0, .int .i64 0, .int .i64 0, .int .i64 0] 76 (0, 0)) _] at hA
  refine c_heap (fun h' _ => Ext h10 h' ∧ h' N10 = some (.cells zero76 76 (0, 0))) ⟨hA, hset_same _ _ _⟩ ?_
  clear hA
  rintro h11 N11 ⟨hx11, g22⟩
  have m1 : N7 ≠ br ∧ N7 ≠ bs ∧ N7 ≠ bp ∧ N7 + 1 ≠ br ∧ N7 + 1 ≠ bs ∧ N7 + 1 ≠ bp := by
    have h1 := hlt _ _ gr
    have h2 := hlt _ _ gs
    have h3 := hlt _ _ gp
    omega
  obtain ⟨m1, m2, m3, m4, m5, m6⟩ := m1
  have gsc := hx11 _ _ (hkeep _ _ (by omega) m1 m2 m3 gsc)
  have gpc := hx11 _ _ (hkeep _ _ (by omega) m4 m5 m6 gpc)
  have ge11 := hx11 _ _ (hkeep _ _ (by have := hlt _ _ ge; omega) hne (ne_of_ty ge9 gs9 rfl) (ne_of_ty ge9 gp9 rfl) ge9)
  have hxE : Ext h h11 := fun c o hc => hx11 _ _ (hkeep _ _ (by have := hlt _ _ (hx7 _ _ hc); omega) (fun e => by rw [e, hbr] at hc; cases hc) (fun e => by rw [e, hbs] at hc; cases hc) (fun e => by rw [e, hbp] at hc; cases hc) (up _ _ (hx7 _ _ hc)))
  have hB := hB.ext hx11
  have gL : ∀ (i : Nat) (v : Value), 56 ≠ i → (setA rc 39 (.slice a2 L ct))[i]? = some v → (setA (setA rc 39 (.slice a2 L ct)) 56 (.int .i64 (L : Int)))[0 + i]? = some v := by
    intro i v h1 h3
    rw [Nat.zero_add, setA_ne _ _ h1]; exact h3
  have gP : (setA (setA rc 39 (.slice a2 L ct)) 56 (.int .i64 (L : Int)))[0 + 56]? = some (.int .i64 (L : Int)) := by
    rw [Nat.zero_add]; exact setA_same _ _ (by omega)
  have g54 := gL 54 _ (by decide) ((hst _ (by decide)).trans q54)
  have g55 := gL 55 _ (by decide) ((hst _ (by decide)).trans q55)
  clear hsm up gr9 gs9 gp9 gpl9 ge9 gr gs gp gpl ge gt hx8 hkeep hlt
  have hr := hB.r
  refine c_draw mixed [] 18 rfl [((0, 2), [((1, 2), [((2, 1), [((3, 2), [((4, 2), [((5, 2), [((6, 2), [((7, 2), [((8, 2), [((9, 2), [((10, 1), [((11, 2), [((12, 2), [((13, 2), [((14, 1), [((15, 2), [((16, 2), [((17, 2), ())])])])])])])])])])])])])])])])])])] (by kernel_rfl) (by kernel_rfl) ?_
  refine w_p rfl (fun _ _ => ok_move (v := .bool _) rfl ⟨rfl, rfl, rfl⟩) ?_
  refine w_p rfl (fun _ _ => ok_move (v := .bool _) rfl ⟨rfl, rfl, rfl⟩) ?_
  refine w_rg rfl rfl (fun _ _ hExt => ok_loadAgg (ty rfl) rfl (hExt _ _ g22) (Nat.le_of_ble_eq_true rfl) rfl ⟨rfl, rfl, rfl⟩) ?_
  refine w_pg rfl rfl (fun _ _ => ok_build rfl (v := .agg #[.int .i64 0, .int .i64 0, .int .i64 0, .int .i64 0]) (fun _ => by kernel_rfl) ⟨rfl, rfl, rfl⟩) ?_
  refine w_pg rfl rfl (fun _ _ => ok_val (v := .bool false) (fun _ => by kernel_rfl) ⟨rfl, rfl, rfl⟩) ?_
  refine w_p rfl (fun _ _ => ok_pick_false rfl rfl ⟨rfl, rfl, rfl⟩) ?_
  refine w_p rfl (fun _ _ => ok_move (v := .bool _) rfl ⟨rfl, rfl, rfl⟩) ?_
  refine w_pg rfl rfl (fun _ _ => ok_move (v := .pointer _) rfl ⟨rfl, rfl, rfl⟩) ?_
  refine w_pg rfl rfl (fun _ _ => ok_nilCheck_ptr rfl ⟨rfl, rfl, rfl⟩) ?_
  refine w_pg rfl rfl (fun _ _ => ok_fieldAddr (fld rfl) rfl ⟨rfl, rfl, rfl⟩) ?_
  refine w_rg rfl rfl (fun _ _ hExt => ok_load (ty rfl) rfl (hExt _ _ hr) gP ⟨rfl, rfl, rfl⟩) ?_
  refine w_pg rfl rfl (fun _ _ => ok_move (v := .pointer _) rfl ⟨rfl, rfl, rfl⟩) ?_
  refine w_pg rfl rfl (fun _ _ => ok_nilCheck_ptr rfl ⟨rfl, rfl, rfl⟩) ?_
  refine w_pg rfl rfl (fun _ _ => ok_fieldAddr (fld rfl) rfl ⟨rfl, rfl, rfl⟩) ?_
  refine w_rg rfl rfl (fun _ _ hExt => ok_load (ty rfl) rfl (hExt _ _ hr) (gL 39 _ (by decide) f39) ⟨rfl, rfl, rfl⟩) ?_
  refine w_pg rfl rfl (fun _ _ => ok_len (sl rfl) rfl ⟨rfl, rfl, rfl⟩) ?_
  refine w_pg rfl rfl (fun _ _ => ok_neq_f rfl rfl ((fun e => e rfl)) ⟨rfl, rfl, rfl⟩) ?_
  refine w_p rfl (fun _ _ => ok_pick_false rfl rfl ⟨rfl, rfl, rfl⟩) ?_
  refine w_nil ?_
  refine n_then ?_
  refine c_cond_false rfl ?_
  refine c_skip ?_
  refine n_then ?_
  refine c_seq ?_
  refine c_seq ?_
  obtain ⟨o1, ho1⟩ : ∃ o1, (if ce = kk then 0 else 0 + kk * 2) = o1 := ⟨_, rfl⟩
  refine c_region (by kernel_rfl) ?_
  refine st_q (ok_move (v := .slice _ _ _) rfl ⟨rfl, rfl, rfl⟩) ?_
  refine st_q (ok_move (v := .int _ _) rfl ⟨rfl, rfl, rfl⟩) ?_
  refine st_q (ok_slice_lo (sl rfl) (ty rfl) rfl rfl (by omega) (by omega) (o' := o1) (n' := (L - kk)) (c' := (ce - kk)) (by exact ho1) rfl rfl ⟨rfl, rfl, rfl⟩) ?_
  refine st_q (ok_len (sl rfl) rfl ⟨rfl, rfl, rfl⟩) ?_
  refine st_q (ok_move (v := .int _ _) rfl ⟨rfl, rfl, rfl⟩) ?_
  refine o_nil ?_
  refine n_then ?_
  refine c_block ?_
  have hz0 : ∀ i, i < n → (Sst n kk fa fb 0 i).length = 0 ∧ (Sst n kk fa fb 0 (n + i)).length = 0 := fun _ _ => ⟨rfl, rfl⟩
  refine c_loop (fun k E h' _ D => D = [] ∧ k ≤ L - kk ∧ Fr E [(7, .int .i64 (n : Int)), (11, .pointer (some ⟨br, 0, none⟩)), (19, .slice (some ⟨N7, 0, none⟩) n n), (20, .slice (some ⟨N7 + 1, 0, none⟩) n n), (176, .slice (some ⟨be, o1, none⟩) (L - kk) (ce - kk)), (177, .int .i64 ((L - kk : Nat) : Int)), (178, .int .i64 ((L - kk - k : Nat) : Int))] ∧ (Ext h h' ∧ Blk h' (N7 + 1 + 1) br bs bp n (setA rc 39 (.slice a2 L ct)) L V (Sst n kk fa fb (L - kk)) ∧ h' be = some (.cells cs 74 (0, 0)) ∧ (∃ ss, h' N7 = some (.cells ss 3 (0, 0)) ∧ ss.size = n ∧ ∀ i, i < n → ss[i]? = some (.int .i64 ((((Sst n kk fa fb (L - kk - k)) i).length : Nat) : Int))) ∧ ∃ ss, h' (N7 + 1) = some (.cells ss 3 (0, 0)) ∧ ss.size = n ∧ ∀ i, i < n → ss[i]? = some (.int .i64 ((((Sst n kk fa fb (L - kk - k)) (n + i)).length : Nat) : Int)))) (k := L - kk) ⟨rfl, Nat.le_refl _, ⟨rfl, rfl, rfl, rfl, rfl, rfl, by simp [upd], trivial⟩, hxE, hB, ge11, ⟨ss, gsc, gscn, ?_⟩, ps, gpc, gpcn, ?_⟩ ?_
  · rw [Nat.sub_self]; exact gscv
  · rw [Nat.sub_self]; exact gpcv
  clear gsc gpc ge11 hxE hB hx11 g22 gscv gpcv gscn gpcn hr
  rintro k E h12 N12 D ⟨rfl, hk, hE, hxE, hB, ge, ⟨ss, gsc, gscn, gscv⟩, ps, gpc, gpcn, gpcv⟩
  obtain ⟨E4, rfl⟩ := hE.ex
  refine c_seq ?_
  refine c_region (by kernel_rfl) ?_
  refine st_q (ok_lss rfl rfl ⟨rfl, rfl, rfl⟩) ?_
  refine o_nil ?_
  refine n_then ?_
  refine c_seq ?_
  refine c_cond_prop rfl (fun hc => ?_) (fun hc => ?_)
  · skip
    generalize hq : L - kk - k = q at gscv gpcv hc ⊢
    have hqL : q < L - kk := by omega
    have hab := hf (kk + q)
    obtain ⟨rs, hrs⟩ := Sst_hit_s (n := n) (k := kk) (fa := fa) (fb := fb) hqL (show fa (kk + q) < n by omega)
    obtain ⟨rp, hrp⟩ := Sst_hit_p (n := n) (k := kk) (fa := fa) (fb := fb) hqL (show fa (kk + q) < n by omega)
    have hss := fun i hi => Sst_s (n := n) (k := kk) (fa := fa) (fb := fb) q i hi
    have hpp := fun i => Sst_p (n := n) (k := kk) (fa := fa) (fb := fb) q i (show fa (kk + q) < n by omega)
    have ho2 : o1 + q * 2 = 0 + (kk + q) * 2 := by rw [← ho1, if_neg (by omega)]; omega
    have gev' := row_get gev (kk + q) (by omega)
    rw [← ho2] at gev'
    have gen' : o1 + q * 2 + 2 ≤ cs.size := by omega
    refine c_skip ?_
    refine n_then ?_
    refine c_seq ?_
    refine c_block ?_
    refine c_seq ?_
    refine c_region (by kernel_rfl) ?_
    refine st_q (ok_indexAddr (sl rfl) (ty rfl) rfl rfl (by omega) (by omega) (off := (o1 + q * 2)) (by omega) ⟨rfl, rfl, rfl⟩) ?_
    refine st_q (ok_loadAgg (ty rfl) rfl ge gen' gev' ⟨rfl, rfl, rfl⟩) ?_
    refine st (ok_alloc (ty rfl) rfl (fun hN25 => ?_))
    refine st0 (ok_storeL (ty rfl) rfl (v := .agg _) rfl rfl rfl rfl (hset_same _ _ _) (Nat.le_of_ble_eq_true rfl) ?_)
    refine o_nil ?_
    refine n_then ?_
    refine c_seq ?_
    have hA : Ext h12 (hset h12 N12 (.cells #[.int .i64 (fa (kk + q) : Int), .int .i64 (fb (kk + q) : Int)] 74 (0, 0))) := Ext.push hN25 _
    rw [← hset_hset _ _ (Obj.cells #[.int .i64 0, .int .i64 0] 74 (0, 0)) _] at hA
    have hh0 : N12 ≠ N7 := fun e => by rw [← e, hN25 _ (Nat.le_refl _)] at gsc; cases gsc
    have hh1 : N12 ≠ N7 + 1 := fun e => by rw [← e, hN25 _ (Nat.le_refl _)] at gpc; cases gpc
    refine c_heap (fun h' _ => Ext h12 h' ∧ h' N12 = some (.cells #[.int .i64 (fa (kk + q) : Int), .int .i64 (fb (kk + q) : Int)] 74 (0, 0))) ⟨hA, hset_same _ _ _⟩ ?_
    clear hA
    rintro h13 N13 ⟨hx13, he⟩
    have hxE := hxE.trans hx13
    have hB := hB.ext hx13
    have ge := hx13 _ _ ge
    have gsc := hx13 _ _ gsc
    have gpc := hx13 _ _ gpc
    clear hx13
    generalize fa (kk + q) = a at *
    generalize fb (kk + q) = b at *
    have ha : a < n := by omega
    obtain ⟨vs, hs, hsn, hsv⟩ := hB.s
    obtain ⟨us, hu, hun, huv⟩ := hB.q
    have hr := hB.r
    obtain ⟨asl, cas, hVa, hia⟩ := hB.g.row (l := a) (by omega)
    obtain ⟨ap', cap', hVb, hib⟩ := hB.g.row (l := n + b) (by omega)
    obtain ⟨ba1, bc1, rfl, hba1, hbv1⟩ := hia (Sst n kk fa fb q a).length b (by rw [hrs]; simp)
    obtain ⟨ba2, bc2, rfl, hba2, hbv2⟩ := hib (Sst n kk fa fb q (n + b)).length a (by rw [hrp]; simp)
    have hl1 : (Sst n kk fa fb (L - kk) a).length = (Sst n kk fa fb q a).length + 1 + rs.length := by rw [hrs]; simp; omega
    have hl2 : (Sst n kk fa fb (L - kk) (n + b)).length = (Sst n kk fa fb q (n + b)).length + 1 + rp.length := by rw [hrp]; simp; omega
    have hsa := (hsv a ha).trans (congrArg some hVa)
    have hub := (huv b (by omega)).trans (congrArg some hVb)
    have hlq := Sst_len n kk fa fb q a
    have hlq2 := Sst_len n kk fa fb q (n + b)
    refine c_seq ?_
    refine c_draw mixed [] 35 rfl [((0, 2), [((1, 2), [((2, 1), [((3, 2), [((4, 1), [((5, 2), [((6, 2), [((7, 2), [((8, 1), [((9, 2), [((10, 1), [((11, 2), [((12, 1), [((13, 2), [((14, 2), [((15, 2), [((16, 2), [((17, 2), [((18, 2), [((19, 1), [((20, 2), [((21, 1), [((22, 2), [((23, 1), [((24, 2), [((25, 2), [((26, 1), [((27, 2), [((28, 1), [((29, 2), [((30, 1), [((31, 2), [((32, 1), [((33, 2), [((34, 2), ())])])])])])])])])])])])])])])])])])])])])])])])])])])])])])])])])])])] (by kernel_rfl) (by kernel_rfl) ?_
    refine w_p rfl (fun _ _ => ok_move (v := .slice _ _ _) rfl ⟨rfl, rfl, rfl⟩) ?_
    refine w_p rfl (fun _ _ => ok_fieldAddr (fld rfl) rfl ⟨rfl, rfl, rfl⟩) ?_
    refine w_r rfl (fun _ _ hExt => ok_load (ty rfl) rfl (hExt _ _ he) (by rfl) ⟨rfl, rfl, rfl⟩) ?_
    refine w_p rfl (fun _ _ => ok_indexAddr (sl rfl) (ty rfl) rfl rfl (by omega) (by omega) (off := a) (by omega) ⟨rfl, rfl, rfl⟩) ?_
    refine w_r rfl (fun _ _ hExt => ok_load (ty rfl) rfl (hExt _ _ gsc) (gscv a ha) ⟨rfl, rfl, rfl⟩) ?_
    refine w_p rfl (fun _ _ => ok_move (v := .pointer _) rfl ⟨rfl, rfl, rfl⟩) ?_
    refine w_p rfl (fun _ _ => ok_nilCheck_ptr rfl ⟨rfl, rfl, rfl⟩) ?_
    refine w_p rfl (fun _ _ => ok_fieldAddr (fld rfl) rfl ⟨rfl, rfl, rfl⟩) ?_
    refine w_r rfl (fun _ _ hExt => ok_load (ty rfl) rfl (hExt _ _ hr) g54 ⟨rfl, rfl, rfl⟩) ?_
    refine w_p rfl (fun _ _ => ok_fieldAddr (fld rfl) rfl ⟨rfl, rfl, rfl⟩) ?_
    refine w_r rfl (fun _ _ hExt => ok_load (ty rfl) rfl (hExt _ _ he) (by rfl) ⟨rfl, rfl, rfl⟩) ?_
    refine w_p rfl (fun _ _ => ok_indexAddr (sl rfl) (ty rfl) rfl rfl (by omega) (by omega) (off := a) (by omega) ⟨rfl, rfl, rfl⟩) ?_
    refine w_r rfl (fun _ _ hExt => ok_load (ty rfl) rfl (hExt _ _ hs) hsa ⟨rfl, rfl, rfl⟩) ?_
    refine w_p rfl (fun _ _ => ok_len (sl rfl) rfl ⟨rfl, rfl, rfl⟩) ?_
    refine w_p rfl (fun _ _ => ok_geq_f rfl rfl ((by omega)) ⟨rfl, rfl, rfl⟩) ?_
    refine w_p rfl (fun _ _ => ok_move (v := .bool _) rfl ⟨rfl, rfl, rfl⟩) ?_
    refine w_pg rfl rfl (fun _ _ => ok_move (v := .pointer _) rfl ⟨rfl, rfl, rfl⟩) ?_
    refine w_pg rfl rfl (fun _ _ => ok_nilCheck_ptr rfl ⟨rfl, rfl, rfl⟩) ?_
    refine w_pg rfl rfl (fun _ _ => ok_fieldAddr (fld rfl) rfl ⟨rfl, rfl, rfl⟩) ?_
    refine w_rg rfl rfl (fun _ _ hExt => ok_load (ty rfl) rfl (hExt _ _ hr) g54 ⟨rfl, rfl, rfl⟩) ?_
    refine w_pg rfl rfl (fun _ _ => ok_fieldAddr (fld rfl) rfl ⟨rfl, rfl, rfl⟩) ?_
    refine w_rg rfl rfl (fun _ _ hExt => ok_load (ty rfl) rfl (hExt _ _ he) (by rfl) ⟨rfl, rfl, rfl⟩) ?_
    refine w_pg rfl rfl (fun _ _ => ok_indexAddr (sl rfl) (ty rfl) rfl rfl (by omega) (by omega) (off := a) (by omega) ⟨rfl, rfl, rfl⟩) ?_
    refine w_rg rfl rfl (fun _ _ hExt => ok_load (ty rfl) rfl (hExt _ _ hs) hsa ⟨rfl, rfl, rfl⟩) ?_
    refine w_pg rfl rfl (fun _ _ => ok_move (v := .slice _ _ _) rfl ⟨rfl, rfl, rfl⟩) ?_
    refine w_pg rfl rfl (fun _ _ => ok_fieldAddr (fld rfl) rfl ⟨rfl, rfl, rfl⟩) ?_
    refine w_rg rfl rfl (fun _ _ hExt => ok_load (ty rfl) rfl (hExt _ _ he) (by rfl) ⟨rfl, rfl, rfl⟩) ?_
    refine w_pg rfl rfl (fun _ _ => ok_indexAddr (sl rfl) (ty rfl) rfl rfl (by omega) (by omega) (off := a) (by omega) ⟨rfl, rfl, rfl⟩) ?_
    refine w_rg rfl rfl (fun _ _ hExt => ok_load (ty rfl) rfl (hExt _ _ gsc) (gscv a ha) ⟨rfl, rfl, rfl⟩) ?_
    refine w_pg rfl rfl (fun _ _ => ok_indexAddr (sl rfl) (ty rfl) rfl rfl (by omega) (by omega) (off := (Sst n kk fa fb q a).length) (by omega) ⟨rfl, rfl, rfl⟩) ?_
    refine w_rg rfl rfl (fun _ _ hExt => ok_load (ty rfl) rfl (hExt _ _ hba1) hbv1 ⟨rfl, rfl, rfl⟩) ?_
    refine w_pg rfl rfl (fun _ _ => ok_fieldAddr (fld rfl) rfl ⟨rfl, rfl, rfl⟩) ?_
    refine w_rg rfl rfl (fun _ _ hExt => ok_load (ty rfl) rfl (hExt _ _ he) (by rfl) ⟨rfl, rfl, rfl⟩) ?_
    refine w_pg rfl rfl (fun _ _ => ok_neq_f rfl rfl ((fun e => e rfl)) ⟨rfl, rfl, rfl⟩) ?_
    refine w_p rfl (fun _ _ => ok_pick_false rfl rfl ⟨rfl, rfl, rfl⟩) ?_
    refine w_nil ?_
    refine n_then ?_
    refine c_cond_false rfl ?_
    refine c_skip ?_
    refine n_then ?_
    refine c_seq ?_
    refine c_region (by kernel_rfl) ?_
    refine st_q (ok_move (v := .slice _ _ _) rfl ⟨rfl, rfl, rfl⟩) ?_
    refine st_q (ok_fieldAddr (fld rfl) rfl ⟨rfl, rfl, rfl⟩) ?_
    refine st_q (ok_load (ty rfl) rfl he (by rfl) ⟨rfl, rfl, rfl⟩) ?_
    refine st_q (ok_indexAddr (sl rfl) (ty rfl) rfl rfl (by omega) (by omega) (off := a) (by omega) ⟨rfl, rfl, rfl⟩) ?_
    refine st_q (ok_load (ty rfl) rfl gsc (gscv a ha) ⟨rfl, rfl, rfl⟩) ?_
    refine st_q (ok_add rfl rfl (by omega) (by omega) ⟨rfl, rfl, rfl⟩) ?_
    refine st_q (ok_indexAddr (sl rfl) (ty rfl) rfl rfl (by omega) (by omega) (off := a) (by omega) ⟨rfl, rfl, rfl⟩) ?_
    refine st0 (ok_store (ty rfl) rfl (v := .int _ _) rfl rfl gsc (by omega) ?_)
    refine o_nil ?_
    refine n_then ?_
    refine c_seq ?_
    have hfs1 : h N7 = none := hfs
    refine c_heap (fun h' _ => Ext h h' ∧ Blk h' (N7 + 1 + 1) br bs bp n (setA rc 39 (.slice a2 L ct)) L V (Sst n kk fa fb (L - kk)) ∧ h' be = some (.cells cs 74 (0, 0)) ∧ (∃ ss, h' N7 = some (.cells ss 3 (0, 0)) ∧ ss.size = n ∧ ∀ i, i < n → ss[i]? = some (.int .i64 (((Sst n kk fa fb (q + 1) i).length : Nat) : Int))) ∧ h' (N7 + 1) = some (.cells ps 3 (0, 0)) ∧ h' N12 = some (.cells #[.int .i64 (a : Int), .int .i64 (b : Int)] 74 (0, 0)) ∧ h' bp = some (.cells us 25 (0, 0)) ∧ h' ba2 = some (.cells bc2 3 (0, 0))) ⟨hxE.fresh hfs _, hB.off (by omega) m1 m2 m3, (hset_ne _ _ (ne_of_ty ge gsc rfl)).trans ge, ⟨_, hset_same _ _ _, by rw [setA_size]; exact gscn, ?_⟩, (hset_ne _ _ (by omega)).trans gpc, (hset_ne _ _ hh0).trans he, (hset_ne _ _ m3.symm).trans hu, (hset_ne _ _ ?_).trans hba2⟩ ?_
    · intro i hi
      rw [hss i hi]
      by_cases e : i = a
      · subst e
        rw [if_pos rfl, setA_same _ _ (by omega)]
        simp
      · rw [if_neg e, setA_ne _ _ (fun x => e x.symm)]; exact gscv i hi
    · intro e
      have := hB.g.old (n + b) ba2 (by omega) (by rw [hVb]; rfl)
      omega
    clear hxE hB ge gsc gpc he hu hs hba1 hba2 hr
    rintro h14 N14 ⟨hxE, hB, ge, ⟨ss', gsc, gscn', gscv'⟩, gpc, he, hu, hba2⟩
    have hr := hB.r
    refine c_seq ?_
    refine c_draw mixed [] 35 rfl [((0, 2), [((1, 2), [((2, 1), [((3, 2), [((4, 1), [((5, 2), [((6, 2), [((7, 2), [((8, 1), [((9, 2), [((10, 1), [((11, 2), [((12, 1), [((13, 2), [((14, 2), [((15, 2), [((16, 2), [((17, 2), [((18, 2), [((19, 1), [((20, 2), [((21, 1), [((22, 2), [((23, 1), [((24, 2), [((25, 2), [((26, 1), [((27, 2), [((28, 1), [((29, 2), [((30, 1), [((31, 2), [((32, 1), [((33, 2), [((34, 2), ())])])])])])])])])])])])])])])])])])])])])])])])])])])])])])])])])])])] (by kernel_rfl) (by kernel_rfl) ?_
    refine w_p rfl (fun _ _ => ok_move (v := .slice _ _ _) rfl ⟨rfl, rfl, rfl⟩) ?_
    refine w_p rfl (fun _ _ => ok_fieldAddr (fld rfl) rfl ⟨rfl, rfl, rfl⟩) ?_
    refine w_r rfl (fun _ _ hExt => ok_load (ty rfl) rfl (hExt _ _ he) (by rfl) ⟨rfl, rfl, rfl⟩) ?_
    refine w_p rfl (fun _ _ => ok_indexAddr (sl rfl) (ty rfl) rfl rfl (by omega) (by omega) (off := b) (by omega) ⟨rfl, rfl, rfl⟩) ?_
    refine w_r rfl (fun _ _ hExt => ok_load (ty rfl) rfl (hExt _ _ gpc) (gpcv b (by omega)) ⟨rfl, rfl, rfl⟩) ?_
    refine w_p rfl (fun _ _ => ok_move (v := .pointer _) rfl ⟨rfl, rfl, rfl⟩) ?_
    refine w_p rfl (fun _ _ => ok_nilCheck_ptr rfl ⟨rfl, rfl, rfl⟩) ?_
    refine w_p rfl (fun _ _ => ok_fieldAddr (fld rfl) rfl ⟨rfl, rfl, rfl⟩) ?_
    refine w_r rfl (fun _ _ hExt => ok_load (ty rfl) rfl (hExt _ _ hr) g55 ⟨rfl, rfl, rfl⟩) ?_
    refine w_p rfl (fun _ _ => ok_fieldAddr (fld rfl) rfl ⟨rfl, rfl, rfl⟩) ?_
    refine w_r rfl (fun _ _ hExt => ok_load (ty rfl) rfl (hExt _ _ he) (by rfl) ⟨rfl, rfl, rfl⟩) ?_
    refine w_p rfl (fun _ _ => ok_indexAddr (sl rfl) (ty rfl) rfl rfl (by omega) (by omega) (off := b) (by omega) ⟨rfl, rfl, rfl⟩) ?_
    refine w_r rfl (fun _ _ hExt => ok_load (ty rfl) rfl (hExt _ _ hu) hub ⟨rfl, rfl, rfl⟩) ?_
    refine w_p rfl (fun _ _ => ok_len (sl rfl) rfl ⟨rfl, rfl, rfl⟩) ?_
    refine w_p rfl (fun _ _ => ok_geq_f rfl rfl ((by omega)) ⟨rfl, rfl, rfl⟩) ?_
    refine w_p rfl (fun _ _ => ok_move (v := .bool _) rfl ⟨rfl, rfl, rfl⟩) ?_
    refine w_pg rfl rfl (fun _ _ => ok_move (v := .pointer _) rfl ⟨rfl, rfl, rfl⟩) ?_
    refine w_pg rfl rfl (fun _ _ => ok_nilCheck_ptr rfl ⟨rfl, rfl, rfl⟩) ?_
    refine w_pg rfl rfl (fun _ _ => ok_fieldAddr (fld rfl) rfl ⟨rfl, rfl, rfl⟩) ?_
    refine w_rg rfl rfl (fun _ _ hExt => ok_load (ty rfl) rfl (hExt _ _ hr) g55 ⟨rfl, rfl, rfl⟩) ?_
    refine w_pg rfl rfl (fun _ _ => ok_fieldAddr (fld rfl) rfl ⟨rfl, rfl, rfl⟩) ?_
    refine w_rg rfl rfl (fun _ _ hExt => ok_load (ty rfl) rfl (hExt _ _ he) (by rfl) ⟨rfl, rfl, rfl⟩) ?_
    refine w_pg rfl rfl (fun _ _ => ok_indexAddr (sl rfl) (ty rfl) rfl rfl (by omega) (by omega) (off := b) (by omega) ⟨rfl, rfl, rfl⟩) ?_
    refine w_rg rfl rfl (fun _ _ hExt => ok_load (ty rfl) rfl (hExt _ _ hu) hub ⟨rfl, rfl, rfl⟩) ?_
    refine w_pg rfl rfl (fun _ _ => ok_move (v := .slice _ _ _) rfl ⟨rfl, rfl, rfl⟩) ?_
    refine w_pg rfl rfl (fun _ _ => ok_fieldAddr (fld rfl) rfl ⟨rfl, rfl, rfl⟩) ?_
    refine w_rg rfl rfl (fun _ _ hExt => ok_load (ty rfl) rfl (hExt _ _ he) (by rfl) ⟨rfl, rfl, rfl⟩) ?_
    refine w_pg rfl rfl (fun _ _ => ok_indexAddr (sl rfl) (ty rfl) rfl rfl (by omega) (by omega) (off := b) (by omega) ⟨rfl, rfl, rfl⟩) ?_
    refine w_rg rfl rfl (fun _ _ hExt => ok_load (ty rfl) rfl (hExt _ _ gpc) (gpcv b (by omega)) ⟨rfl, rfl, rfl⟩) ?_
    refine w_pg rfl rfl (fun _ _ => ok_indexAddr (sl rfl) (ty rfl) rfl rfl (by omega) (by omega) (off := (Sst n kk fa fb q (n + b)).length) (by omega) ⟨rfl, rfl, rfl⟩) ?_
    refine w_rg rfl rfl (fun _ _ hExt => ok_load (ty rfl) rfl (hExt _ _ hba2) hbv2 ⟨rfl, rfl, rfl⟩) ?_
    refine w_pg rfl rfl (fun _ _ => ok_fieldAddr (fld rfl) rfl ⟨rfl, rfl, rfl⟩) ?_
    refine w_rg rfl rfl (fun _ _ hExt => ok_load (ty rfl) rfl (hExt _ _ he) (by rfl) ⟨rfl, rfl, rfl⟩) ?_
    refine w_pg rfl rfl (fun _ _ => ok_neq_f rfl rfl ((fun e => e rfl)) ⟨rfl, rfl, rfl⟩) ?_
    refine w_p rfl (fun _ _ => ok_pick_false rfl rfl ⟨rfl, rfl, rfl⟩) ?_
    refine w_nil ?_
    refine n_then ?_
    refine c_cond_false rfl ?_
    refine c_skip ?_
    refine n_then ?_
    refine c_region (by kernel_rfl) ?_
    refine st_q (ok_move (v := .slice _ _ _) rfl ⟨rfl, rfl, rfl⟩) ?_
    refine st_q (ok_fieldAddr (fld rfl) rfl ⟨rfl, rfl, rfl⟩) ?_
    refine st_q (ok_load (ty rfl) rfl he (by rfl) ⟨rfl, rfl, rfl⟩) ?_
    refine st_q (ok_indexAddr (sl rfl) (ty rfl) rfl rfl (by omega) (by omega) (off := b) (by omega) ⟨rfl, rfl, rfl⟩) ?_
    refine st_q (ok_load (ty rfl) rfl gpc (gpcv b (by omega)) ⟨rfl, rfl, rfl⟩) ?_
    refine st_q (ok_add rfl rfl (by omega) (by omega) ⟨rfl, rfl, rfl⟩) ?_
    refine st_q (ok_indexAddr (sl rfl) (ty rfl) rfl rfl (by omega) (by omega) (off := b) (by omega) ⟨rfl, rfl, rfl⟩) ?_
    refine st0 (ok_store (ty rfl) rfl (v := .int _ _) rfl rfl gpc (by omega) ?_)
    refine o_nil ?_
    refine n_block (n_then ?_)
    refine c_region (by kernel_rfl) ?_
    refine st_q (ok_add rfl rfl (by omega) (by omega) ⟨rfl, rfl, rfl⟩) ?_
    refine st_q (ok_move (v := .int _ _) rfl ⟨rfl, rfl, rfl⟩) ?_
    refine o_nil ?_
    have hq1 : L - kk - (k - 1) = q + 1 := by omega
    refine n_then ⟨k - 1, by omega, rfl, by omega, ⟨rfl, rfl, rfl, rfl, rfl, rfl, ?_, trivial⟩, hxE.fresh hfp _, hB.off (by omega) m4 m5 m6, (hset_ne _ _ (ne_of_ty ge gpc rfl)).trans ge, ⟨ss', (hset_ne _ _ (by omega)).trans gsc, gscn', ?_⟩, _, hset_same _ _ _, by rw [setA_size]; exact gpcn, ?_⟩
    · rw [hq1]; rfl
    · rw [hq1]; exact gscv'
    · intro i hi
      rw [hq1, hpp i]
      by_cases e : i = b
      · subst e
        rw [if_pos rfl, setA_same _ _ (by omega)]
        simp
      · rw [if_neg e, setA_ne _ _ (fun x => e x.symm)]; exact gpcv i hi
  obtain rfl : k = 0 := by omega
  clear hc hk
  rw [Nat.sub_zero] at gscv gpcv
  refine c_exit ?_
  refine x_then (x_then (x_block (n_then ?_)))
  refine c_seq ?_
  refine c_seq ?_
  refine c_region (by kernel_rfl) ?_
  refine st_q (ok_assign (v := .int _ _) rfl ⟨rfl, rfl, rfl⟩) ?_
  refine o_nil ?_
  refine n_then ?_
  refine c_block ?_
  obtain ⟨vs, hs, hsn, hsv⟩ := hB.s
  obtain ⟨us, hu, hun, huv⟩ := hB.q
  have hr := hB.r
  refine c_loop (fun k E h' _ D => D = [] ∧ k ≤ n ∧ Fr E [(7, .int .i64 (n : Int)), (11, .pointer (some ⟨br, 0, none⟩)), (19, .slice (some ⟨N7, 0, none⟩) n n), (20, .slice (some ⟨N7 + 1, 0, none⟩) n n), (26, .int .i64 ((n - k : Nat) : Int))] ∧ h' = h12) (k := n) ⟨rfl, Nat.le_refl _, ⟨rfl, rfl, rfl, rfl, by simp [upd], trivial⟩, rfl⟩ ?_
  rintro k E h13 N13 D ⟨rfl, hk, hE, rfl⟩
  obtain ⟨E5, rfl⟩ := hE.ex
  refine c_seq ?_
  refine c_seq ?_
  refine c_region (by kernel_rfl) ?_
  refine st_q (ok_move (v := .int _ _) rfl ⟨rfl, rfl, rfl⟩) ?_
  refine st_q (ok_move (v := .int _ _) rfl ⟨rfl, rfl, rfl⟩) ?_
  refine st_q (ok_lss rfl rfl ⟨rfl, rfl, rfl⟩) ?_
  refine o_nil ?_
  refine n_then ?_
  refine c_cond_prop rfl (fun hc => ?_) (fun hc => ?_)
  · skip
    have hki : n - k < n := by omega
    obtain ⟨asl, cas, hVa, _⟩ := hB.g.row (l := n - k) (by omega)
    obtain ⟨ap', cap', hVb, _⟩ := hB.g.row (l := n + (n - k)) (by omega)
    have hsa := (hsv _ hki).trans (congrArg some hVa)
    have hub := (huv _ hki).trans (congrArg some hVb)
    refine c_skip ?_
    refine n_then ?_
    refine c_seq ?_
    refine c_block ?_
    refine c_seq ?_
    refine c_draw mixed [] 28 rfl [((0, 2), [((1, 2), [((2, 2), [((3, 1), [((4, 2), [((5, 2), [((6, 1), [((7, 2), [((8, 2), [((9, 2), [((10, 2), [((11, 1), [((12, 2), [((13, 2), [((14, 2), [((15, 2), [((16, 2), [((17, 1), [((18, 2), [((19, 2), [((20, 1), [((21, 2), [((22, 2), [((23, 2), [((24, 2), [((25, 1), [((26, 2), [((27, 2), ())])])])])])])])])])])])])])])])])])])])])])])])])])])])] (by kernel_rfl) (by kernel_rfl) ?_
    refine w_p rfl (fun _ _ => ok_move (v := .pointer _) rfl ⟨rfl, rfl, rfl⟩) ?_
    refine w_p rfl (fun _ _ => ok_nilCheck_ptr rfl ⟨rfl, rfl, rfl⟩) ?_
    refine w_p rfl (fun _ _ => ok_fieldAddr (fld rfl) rfl ⟨rfl, rfl, rfl⟩) ?_
    refine w_r rfl (fun _ _ hExt => ok_load (ty rfl) rfl (hExt _ _ hr) g54 ⟨rfl, rfl, rfl⟩) ?_
    refine w_p rfl (fun _ _ => ok_move (v := .int _ _) rfl ⟨rfl, rfl, rfl⟩) ?_
    refine w_p rfl (fun _ _ => ok_indexAddr (sl rfl) (ty rfl) rfl rfl (by omega) (by omega) (off := n - k) (by omega) ⟨rfl, rfl, rfl⟩) ?_
    refine w_r rfl (fun _ _ hExt => ok_load (ty rfl) rfl (hExt _ _ hs) hsa ⟨rfl, rfl, rfl⟩) ?_
    refine w_p rfl (fun _ _ => ok_len (sl rfl) rfl ⟨rfl, rfl, rfl⟩) ?_
    refine w_p rfl (fun _ _ => ok_move (v := .slice _ _ _) rfl ⟨rfl, rfl, rfl⟩) ?_
    refine w_p rfl (fun _ _ => ok_move (v := .int _ _) rfl ⟨rfl, rfl, rfl⟩) ?_
    refine w_p rfl (fun _ _ => ok_indexAddr (sl rfl) (ty rfl) rfl rfl (by omega) (by omega) (off := n - k) (by omega) ⟨rfl, rfl, rfl⟩) ?_
    refine w_r rfl (fun _ _ hExt => ok_load (ty rfl) rfl (hExt _ _ gsc) (gscv _ hki) ⟨rfl, rfl, rfl⟩) ?_
    refine w_p rfl (fun _ _ => ok_neq_f rfl rfl ((fun e => e rfl)) ⟨rfl, rfl, rfl⟩) ?_
    refine w_p rfl (fun _ _ => ok_move (v := .bool _) rfl ⟨rfl, rfl, rfl⟩) ?_
    refine w_pg rfl rfl (fun _ _ => ok_move (v := .pointer _) rfl ⟨rfl, rfl, rfl⟩) ?_
    refine w_pg rfl rfl (fun _ _ => ok_nilCheck_ptr rfl ⟨rfl, rfl, rfl⟩) ?_
    refine w_pg rfl rfl (fun _ _ => ok_fieldAddr (fld rfl) rfl ⟨rfl, rfl, rfl⟩) ?_
    refine w_rg rfl rfl (fun _ _ hExt => ok_load (ty rfl) rfl (hExt _ _ hr) g55 ⟨rfl, rfl, rfl⟩) ?_
    refine w_pg rfl rfl (fun _ _ => ok_move (v := .int _ _) rfl ⟨rfl, rfl, rfl⟩) ?_
    refine w_pg rfl rfl (fun _ _ => ok_indexAddr (sl rfl) (ty rfl) rfl rfl (by omega) (by omega) (off := n - k) (by omega) ⟨rfl, rfl, rfl⟩) ?_
    refine w_rg rfl rfl (fun _ _ hExt => ok_load (ty rfl) rfl (hExt _ _ hu) hub ⟨rfl, rfl, rfl⟩) ?_
    refine w_pg rfl rfl (fun _ _ => ok_len (sl rfl) rfl ⟨rfl, rfl, rfl⟩) ?_
    refine w_pg rfl rfl (fun _ _ => ok_move (v := .slice _ _ _) rfl ⟨rfl, rfl, rfl⟩) ?_
    refine w_pg rfl rfl (fun _ _ => ok_move (v := .int _ _) rfl ⟨rfl, rfl, rfl⟩) ?_
    refine w_pg rfl rfl (fun _ _ => ok_indexAddr (sl rfl) (ty rfl) rfl rfl (by omega) (by omega) (off := n - k) (by omega) ⟨rfl, rfl, rfl⟩) ?_
    refine w_rg rfl rfl (fun _ _ hExt => ok_load (ty rfl) rfl (hExt _ _ gpc) (gpcv _ hki) ⟨rfl, rfl, rfl⟩) ?_
    refine w_pg rfl rfl (fun _ _ => ok_neq_f rfl rfl ((fun e => e rfl)) ⟨rfl, rfl, rfl⟩) ?_
    refine w_p rfl (fun _ _ => ok_pick_false rfl rfl ⟨rfl, rfl, rfl⟩) ?_
    refine w_nil ?_
    refine n_then ?_
    refine c_cond_false rfl ?_
    refine c_skip ?_
    refine n_block (n_then ?_)
    refine c_region (by kernel_rfl) ?_
    refine st_q (ok_move (v := .int _ _) rfl ⟨rfl, rfl, rfl⟩) ?_
    refine st_q (ok_add rfl rfl (by omega) (by omega) ⟨rfl, rfl, rfl⟩) ?_
    refine st_q (ok_assign (v := .int _ _) rfl ⟨rfl, rfl, rfl⟩) ?_
    refine o_nil ?_
    refine n_then ⟨k - 1, by omega, rfl, by omega, ⟨rfl, rfl, rfl, rfl, ?_, trivial⟩, rfl⟩
    show Value.int .i64 (((n - k : Nat) : Int) + 1) = _
    congr 1; omega
  refine c_exit ?_
  refine x_then (x_then (x_block (n_then ?_)))
  refine c_seq ?_
  refine c_region (by kernel_rfl) ?_
  refine st_q (ok_assign (v := .bool _) rfl ⟨rfl, rfl, rfl⟩) ?_
  refine o_nil ?_
  refine n_then ?_
  refine c_ret ?_
  exact r_leave (leave_tmp rfl rfl ⟨rfl, hxE⟩)
end
end Sx
end Go.Proofs.YbulkcsqkGreatDoor
