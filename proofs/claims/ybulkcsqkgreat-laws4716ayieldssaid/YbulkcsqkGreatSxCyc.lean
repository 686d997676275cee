import Derived.Test.YbulkcsqkGreatSxSP
namespace Go.Proofs.YbulkcsqkGreat
namespace Sx
set_option maxRecDepth 10000
set_option maxHeartbeats 2000000
variable {w0 : World}
section
variable {h m X : Hp} {N : Nat}

/-- What cycle does not change. -/
structure CYC (X h : Hp) (an : Option Addr) (b2 b3 bq bx bs n nc : Nat) (V' : Nat → Value) (S : Nat → List Nat) : Prop where
  ext : Ext h X
  xg : X b2 = some (.cells (gcells an n nc bs) 69 (0, 0))
  xf : X b3 = some (.cells #[.func (.func 24) #[] #[.pointer (some ⟨bx, 0, none⟩)]] 35 (0, 0))
  pred : Rows X bq n V' (fun j => Pl S n j)
theorem CYC.mono {X X' h : Hp} {an : Option Addr} {b2 b3 bq bx bs n nc : Nat} {V' : Nat → Value} {S : Nat → List Nat} (hc : CYC X h an b2 b3 bq bx bs n nc V' S) (hx : Ext X X') : CYC X' h an b2 b3 bq bx bs n nc V' S :=
  ⟨hc.ext.trans hx, hx _ _ hc.xg, hx _ _ hc.xf, hc.pred.ext hx⟩
/-- How many are not seen. -/
def uns (n : Nat) (sv : Nat → Bool) : Nat := ((List.range n).filter (fun x => !sv x)).length
theorem uns_set {n s : Nat} {sv : Nat → Bool} (hs : s < n) (h0 : sv s = false) : uns n sv = uns n (fun x => if x = s then true else sv x) + 1 := by
  unfold uns
  rw [filter_len_split List.nodup_range (fun x => !sv x) (List.mem_range.2 hs) (by simp [h0])]
  congr 2
  apply List.filter_congr
  intro x _
  by_cases e : x = s <;> simp [e]

theorem cycle_ok {an : Option Addr} {n nc bs bx bt bi c5 : Nat} {V : Nat → Value} {S : Nat → List Nat} {dg : Nat → Nat} {ct ds : Array Value} {t1 t2 t3 : TypeId} {f1 f2 f3 : Nat × Nat} (hR : Rows h bs n V S) (hSl : ∀ i, i < n → ∀ k, k ∈ S i → k < n) (hSn : ∀ i, i < n → (S i).Nodup) (hn : n ≤ 100)
    (kx : h bx = some (.cells #[.pointer (some ⟨bt, 0, none⟩)] t1 f1)) (kt : h bt = some (.cells ct t2 f2)) (kc : ct[5]? = some (.slice (some ⟨bi, 0, none⟩) n c5)) (kd : h bi = some (.cells ds t3 f3)) (kv : ∀ j, j < n → ds[j]? = some (.int .i64 (dg j : Int)))
    (hst : ∃ j, j < n ∧ 0 < dg j) (hpr : ∀ j, j < n → 0 < dg j → ∃ k, k < n ∧ j ∈ S k ∧ 0 < dg k) :
    CallsX Ybaz.prog w0 23 #[.agg (gcells an n nc bs), .func (.func 24) #[] #[.pointer (some ⟨bx, 0, none⟩)]] h N (fun u h' _ => Ext h h' ∧ (∃ a b c, u = .slice (some a) b c) ∧ ∃ i, i < n ∧ TC S i i) := by
  refine calls_of Ybaz.func23 rfl Ybaz.ntmps23 (Nat.le_of_ble_eq_true rfl) ?_
  refine c_seq ?_
  refine c_region (by kernel_rfl) ?_
  refine st (ok_box (v := .agg _) rfl rfl (fun hN2 => ?_))
  refine st (ok_box (v := .func _ _ _) rfl rfl (fun hN3 => ?_))
  refine st_q (ok_assign (v := .slice _ _ _) rfl ⟨rfl, rfl, rfl⟩) ?_
  refine o_nil ?_
  refine n_then ?_
  have hx1 := (Ext.push hN2 (.cells (gcells an n nc bs) 69 (0, 0))).trans (Ext.push hN3 (.cells #[.func (.func 24) #[] #[.pointer (some ⟨bx, 0, none⟩)]] 35 (0, 0)))
  have g2 := (hset_ne (hset h N (.cells (gcells an n nc bs) 69 (0, 0))) (.cells #[.func (.func 24) #[] #[.pointer (some ⟨bx, 0, none⟩)]] 35 (0, 0)) (show N ≠ N + 1 by omega)).trans (hset_same _ _ _)
  refine c_seq ?_
  refine c_region (by kernel_rfl) ?_
  refine st_q (ok_loadAgg (ty rfl) rfl g2 (Nat.le_of_ble_eq_true rfl) rfl ⟨rfl, rfl, rfl⟩) ?_
  refine st (ok_call rfl ent25 (pred_ok (hR.ext hx1) hSn hSl hn) rfl ?_)
  rintro _ h2 N2 ⟨mp, bq, V', rfl, hSp, hRp⟩
  refine st_q (ok_assign (v := .slice _ _ _) rfl ⟨rfl, rfl, rfl⟩) ?_
  refine o_nil ?_
  refine n_then ?_
  have hd : ∀ c, mp c = none ∨ _ := hSp.dis
  obtain ⟨X, hS0, hC⟩ : ∃ X, Sep (fun _ => none) X h2 ∧ CYC X h an N (N + 1) bq bx bs n nc V' S := ⟨_, hSp.lend, ⟨hx1.trans (uni_r hd), uni_r hd _ _ g2, uni_r hd _ _ (hset_same _ _ _), hRp.ext (uni_l _ _)⟩⟩
  generalize N + 1 = b3 at *
  clear hSp hRp hd hx1 g2
  refine c_seq ?_
  refine c_region (by kernel_rfl) ?_
  refine st (ok_alloc (ty rfl) rfl (fun hN6 => ?_))
  refine st0 (ok_store (ty rfl) rfl (v := .int _ _) rfl rfl (hset_same _ _ _) (Nat.le_of_ble_eq_true rfl) ?_)
  refine o_nil ?_
  refine n_then ?_
  have hS := (hS0.push hN6 (.cells #[.int .i64 0] 3 (0, 0))).set (hset_same _ _ _) (.cells #[.int .i64 0] 3 (0, 0))
  rw [hset_hset (fun _ => none)] at hS
  have hstk : ∀ (h' : Hp) (N' i : Nat), Ext X h' → i < n → CallsX Ybaz.prog w0 24 #[.int .i64 (i : Int), .pointer (some ⟨bx, 0, none⟩)] h' N' (fun v h2 N2 => v = .bool (decide (0 < dg i)) ∧ h2 = h' ∧ N2 = N') := fun h' N' i hx hi =>
    stuck_ok (hx _ _ (hC.ext _ _ kx)) (hx _ _ (hC.ext _ _ kt)) kc (hx _ _ (hC.ext _ _ kd)) kv hi
  refine c_seq ?_
  refine c_block ?_
  refine c_loop (fun k E h' _ D => D = [] ∧ ∃ m s, s < n ∧ k = n - s ∧ (∀ j, j < s → ¬ 0 < dg j) ∧ Sep m X h' ∧ m N2 = some (.cells #[.int .i64 (s : Int)] 3 (0, 0)) ∧ Fr E [(2, .pointer (some ⟨N, 0, none⟩)), (3, .pointer (some ⟨b3, 0, none⟩)), (5, .slice (some ⟨bq, 0, none⟩) n n), (6, .pointer (some ⟨N2, 0, none⟩))]) (k := n - 0) ⟨rfl, _, 0, by obtain ⟨j, hj, _⟩ := hst; omega, rfl, fun j hj => absurd hj (Nat.not_lt_zero j), hS, hset_same _ _ _, rfl, rfl, rfl, rfl, trivial⟩ ?_
  clear hS hS0
  rintro k E h3 N3 D ⟨rfl, m, s, hsn, hk, hlow, hS, g6, hE⟩
  obtain ⟨E1, rfl⟩ := hE.ex
  refine c_seq ?_
  refine c_seq ?_
  refine c_region (by kernel_rfl) ?_
  refine st_q (ok_load (ty rfl) rfl (hS.oth _ _ hC.xf) rfl ⟨rfl, rfl, rfl⟩) ?_
  refine st_q (ok_load (ty rfl) rfl (hS.own _ _ g6) rfl ⟨rfl, rfl, rfl⟩) ?_
  refine st (ok_call rfl ent24 (hstk _ _ s hS.oth hsn) rfl ?_); rintro _ h4 N4 ⟨rfl, rfl, rfl⟩
  refine st_q (ok_not rfl ⟨rfl, rfl, rfl⟩) ?_
  refine o_nil ?_
  refine n_then ?_
  refine c_cond rfl (fun hc => ?_) (fun hc => ?_)
  · skip
    have hns : ¬ 0 < dg s := by simpa using hc
    refine c_skip ?_
    refine n_then ?_
    refine c_block ?_
    refine c_region (by kernel_rfl) ?_
    refine st_q (ok_load (ty rfl) rfl (hS.own _ _ g6) rfl ⟨rfl, rfl, rfl⟩) ?_
    refine st_q (ok_add rfl rfl (by omega) (by omega) ⟨rfl, rfl, rfl⟩) ?_
    refine st0 (ok_store (ty rfl) rfl (v := .int _ _) rfl rfl (hS.own _ _ g6) (Nat.le_of_ble_eq_true rfl) ?_)
    refine o_nil ?_
    have hlow2 : ∀ j, j < s + 1 → ¬ 0 < dg j := fun j hj => by
      by_cases e : j = s
      · rw [e]; exact hns
      · exact hlow j (by omega)
    have hs1 : s + 1 < n := by
      obtain ⟨j, hj, hj2⟩ := hst
      rcases Nat.lt_or_ge j (s + 1) with h1 | h1
      · exact absurd hj2 (hlow2 j h1)
      · omega
    exact n_block (n_then ⟨n - (s + 1), by omega, rfl, _, s + 1, hs1, rfl, hlow2, hS.set g6 _, hset_same _ _ _, rfl, rfl, rfl, rfl, trivial⟩)
  · skip
    have hss : 0 < dg s := by simpa using hc
    clear hlow hc hk
    refine c_exit ?_
    refine x_then (x_then (x_block (n_then ?_)))
    refine c_seq ?_
    refine c_region (by kernel_rfl) ?_
    refine st_q (ok_fieldAddr (fld rfl) rfl ⟨rfl, rfl, rfl⟩) ?_
    refine st_q (ok_load (ty rfl) rfl (hS.oth _ _ hC.xg) rfl ⟨rfl, rfl, rfl⟩) ?_
    refine st_q (ok_len (sl rfl) rfl ⟨rfl, rfl, rfl⟩) ?_
    refine st (ok_makeSlice (sl rfl) (ty rfl) rfl rfl (by omega) (by omega) (by omega) (by omega) (l' := n) (c' := n) (by omega) (by omega) (fun hN25 => ?_))
    refine st_q (ok_assign (v := .slice _ _ _) rfl ⟨rfl, rfl, rfl⟩) ?_
    refine o_nil ?_
    refine n_then ?_
    have hm1 : m N4 = none := hS.own.back (hN25 _ (Nat.le_refl _))
    have hS1 := hS.push hN25 (.cells (madeCells #[.bool false] (n * 1)) 4 (0, 0))
    refine c_seq ?_
    refine c_region (by kernel_rfl) ?_
    refine st (ok_alloc (ty rfl) rfl (fun hN8 => ?_))
    refine o_nil ?_
    refine n_then ?_
    have hm2 := hS1.own.back (hN8 _ (Nat.le_refl _))
    have hS2 := hS1.push hN8 (.cells (wcells 0) 126 (0, 0))
    have e1 := (Ext.refl m).fresh hm1 (.cells (madeCells #[.bool false] (n * 1)) 4 (0, 0))
    have e2 := (Ext.refl (hset m N4 (.cells (madeCells #[.bool false] (n * 1)) 4 (0, 0)))).fresh hm2 (.cells (wcells 0) 126 (0, 0))
    refine c_seq ?_
    refine c_block ?_
    refine c_loop (fun k E h' _ D => ∃ m s w sn sv, s < n ∧ 0 < dg s ∧ k = uns n sv ∧ w + k = n ∧ Sep m X h' ∧ Marks m D ∧ m N2 = some (.cells #[.int .i64 ((s : Nat) : Int)] 3 (0, 0)) ∧ m N4 = some (.cells sn 4 (0, 0)) ∧ sn.size = n ∧ (∀ j, j < n → sn[j]? = some (.bool (sv j))) ∧ m (N4 + 1) = some (.cells (wcells w) 126 (0, 0)) ∧ (∀ x, x < n → sv x = true → TC S s x) ∧
        Fr E [(2, .pointer (some ⟨N, 0, none⟩)), (3, .pointer (some ⟨b3, 0, none⟩)), (5, .slice (some ⟨bq, 0, none⟩) n n), (6, .pointer (some ⟨N2, 0, none⟩)), (7, .slice (some ⟨N4, 0, none⟩) n n), (8, .pointer (some ⟨N4 + 1, 0, none⟩))]) (k := n)
      ⟨_, s, 0, _, fun _ => false, hsn, hss, by unfold uns; rw [List.filter_eq_self.2 (by simp)]; simp, by omega, hS2, Marks.nil _, e2 _ _ (e1 _ _ g6), e2 _ _ (hset_same _ _ _), made_size, made_get, hset_same _ _ _, fun x _ hx => (by cases hx), rfl, rfl, rfl, rfl, rfl, rfl, trivial⟩ ?_
    clear hS hS1 hS2 g6 hm1 hm2 e1 e2 hsn hss
    rintro k2 E h5 N5 D ⟨m, s, w, sn, sv, hsn, hss, hk2, hw, hS, hM, g6, g7, hz7, hv7, g8, hseen, hE⟩
    obtain ⟨E2, rfl⟩ := hE.ex
    refine c_seq ?_
    refine c_seq ?_
    refine c_region (by kernel_rfl) ?_
    refine st_q (ok_move (v := .slice _ _ _) rfl ⟨rfl, rfl, rfl⟩) ?_
    refine st_q (ok_load (ty rfl) rfl (hS.own _ _ g6) rfl ⟨rfl, rfl, rfl⟩) ?_
    refine st_q (ok_indexAddr (sl rfl) (ty rfl) rfl rfl (by omega) (by omega) (off := s) (by omega) ⟨rfl, rfl, rfl⟩) ?_
    refine st_q (ok_load (ty rfl) rfl (hS.own _ _ g7) (hv7 s hsn) ⟨rfl, rfl, rfl⟩) ?_
    refine st_q (ok_not rfl ⟨rfl, rfl, rfl⟩) ?_
    refine o_nil ?_
    refine n_then ?_
    refine c_cond rfl (fun hc => ?_) (fun hc => ?_)
    · skip
      have hs0 : sv s = false := by simpa using hc
      have hus := uns_set hsn hs0
      refine c_skip ?_
      refine n_then ?_
      refine c_block ?_
      refine c_seq ?_
      refine c_region (by kernel_rfl) ?_
      refine st_q (ok_move (v := .slice _ _ _) rfl ⟨rfl, rfl, rfl⟩) ?_
      refine st_q (ok_load (ty rfl) rfl (hS.own _ _ g6) rfl ⟨rfl, rfl, rfl⟩) ?_
      refine st_q (ok_indexAddr (sl rfl) (ty rfl) rfl rfl (by omega) (by omega) (off := s) (by omega) ⟨rfl, rfl, rfl⟩) ?_
      refine st0 (ok_store (ty rfl) rfl (v := .bool _) rfl rfl (hS.own _ _ g7) (by omega) ?_)
      refine o_nil ?_
      refine n_then ?_
      have hS1 := hS.set g7 (.cells (setA sn s (.bool true)) 4 (0, 0))
      have g61 : (hset m N4 (.cells (setA sn s (.bool true)) 4 (0, 0))) N2 = _ := (hset_ne _ _ (ne_of_ty g6 g7 rfl)).trans g6
      have g81 : (hset m N4 (.cells (setA sn s (.bool true)) 4 (0, 0))) (N4 + 1) = _ := (hset_ne _ _ (by omega)).trans g8
      have hM1 := hM.set (o := .cells (setA sn s (.bool true)) 4 (0, 0)) g7
      refine c_seq ?_
      refine c_region (by kernel_rfl) ?_
      refine st_q (ok_fieldAddr (fld rfl) rfl ⟨rfl, rfl, rfl⟩) ?_
      refine st_q (ok_load (ty rfl) rfl (hS1.oth _ _ hC.xg) rfl ⟨rfl, rfl, rfl⟩) ?_
      refine st_q (ok_len (sl rfl) rfl ⟨rfl, rfl, rfl⟩) ?_
      refine st (ok_call rfl ent43 (begin_ok (hS1.own _ _ g81) (by omega)) rfl ?_)
      rintro _ h6 N6 ⟨rfl, rfl, rfl⟩
      refine o_nil ?_
      refine n_then ?_
      have hS2 := hS1.set g81 (.cells (wcells (w + 1)) 126 (0, 0))
      have hv7' : ∀ j, j < n → (setA sn s (.bool true))[j]? = some (.bool ((fun x => if x = s then true else sv x) j)) := fun j hj => by
        by_cases e : j = s
        · subst e; rw [setA_same _ _ (by omega)]; simp
        · rw [setA_ne _ _ (fun e2 => e e2.symm), hv7 j hj]; simp [e]
      refine c_heap (fun h' _ => ∃ m, Sep m X h' ∧ Marks m D ∧ m N2 = some (.cells #[.int .i64 (s : Int)] 3 (0, 0)) ∧ m N4 = some (.cells (setA sn s (.bool true)) 4 (0, 0)) ∧ m (N4 + 1) = some (.cells (wcells (w + 1)) 126 (0, 0))) ⟨_, hS2, hM1.set g81, (hset_ne _ _ (ne_of_ty g61 g81 rfl)).trans g61, (hset_ne _ _ (by omega)).trans (hset_same _ _ _), hset_same _ _ _⟩ ?_
      clear hS hS1 hS2 g6 g61 g7 g8 g81 hM hM1
      rintro h6 N7 ⟨m, hS, hM, g6, g7, g8⟩
      refine c_seq ?_
      obtain ⟨vq, q1, q2, q3⟩ := hC.pred.top
      have hqs := q3 s hsn
      have hOs := hC.pred.own s hsn
      obtain ⟨aq, cq, eV, _, _⟩ := hOs.row
      rw [eV] at hqs hOs
      refine c_cut (fun E h' _ D' => D' = D ∧ Fr E [(2, .pointer (some ⟨N, 0, none⟩)), (3, .pointer (some ⟨b3, 0, none⟩)), (5, .slice (some ⟨bq, 0, none⟩) n n), (6, .pointer (some ⟨N2, 0, none⟩)), (7, .slice (some ⟨N4, 0, none⟩) n n), (8, .pointer (some ⟨N4 + 1, 0, none⟩))] ∧ ∃ Y, Sep Y h6 h' ∧ ∃ lb, E 44 = .func (.func 73) #[] lb ∧ AdjC Y lb (.slice aq (Pl S n s).length cq)) ?_ ?_
      · skip
        refine c_draw mixed [0, 0, 0, 0, 0, 0, 2] 7 rfl [((0, 1), [((1, 1), [((2, 2), [((3, 1), [((4, 2), [((5, 1), [((6, 0), ())])])])])])])] (by kernel_rfl) (by kernel_rfl) ?_
        refine w_r rfl (fun _ _ hExt => ok_loadAgg (ty rfl) rfl (hExt _ _ (hS.oth _ _ hC.xg)) (Nat.le_of_ble_eq_true rfl) rfl ⟨rfl, rfl, rfl⟩) ?_
        refine w_r rfl (fun _ _ hExt => ok_load (ty rfl) rfl (hExt _ _ (hS.own _ _ g6)) rfl ⟨rfl, rfl, rfl⟩) ?_
        refine w_p rfl (fun _ _ => ok_move (v := .slice _ _ _) rfl ⟨rfl, rfl, rfl⟩) ?_
        refine w_r rfl (fun _ _ hExt => ok_load (ty rfl) rfl (hExt _ _ (hS.own _ _ g6)) rfl ⟨rfl, rfl, rfl⟩) ?_
        refine w_p rfl (fun _ _ => ok_indexAddr (sl rfl) (ty rfl) rfl rfl (by omega) (by omega) (off := s) (by omega) ⟨rfl, rfl, rfl⟩) ?_
        refine w_r rfl (fun _ _ hExt => ok_load (ty rfl) rfl (hExt _ _ (hS.oth _ _ q1)) hqs ⟨rfl, rfl, rfl⟩) ?_
        refine w_e rfl (ok_call rfl ent44 (adjacent_ok) rfl ?_)
        rintro _ h7 N8 ⟨Y, hY, lb, rfl, hA⟩
        refine ⟨trivial, ?_⟩
        refine w_nil ?_
        exact n_then ⟨rfl, ⟨rfl, rfl, rfl, rfl, rfl, rfl, trivial⟩, Y, hY, lb, rfl, hA⟩
      rintro E h7 N8 D' ⟨rfl, hEr, Y, hY, lb, hE44, hA⟩
      have hEr := And.intro hE44 hEr
      obtain ⟨E3, rfl⟩ := Fr.ex (E := E) (l := [(44, _), (2, _), (3, _), (5, _), (6, _), (7, _), (8, _)]) hEr
      obtain ⟨hS2, hx2, hx3⟩ := hS.join hY
      have hC2 := hC.mono hx2
      refine n_then ?_
      refine c_block ?_
      have hPl := Pl_len S n s
      refine c_adj rfl rfl (hA.ext hx3) (hOs.ext hx2) (by omega) hS2
        (fun j m => Marks m (mark N8 :: D') ∧ m N2 = some (.cells #[.int .i64 (s : Int)] 3 (0, 0)) ∧ m N4 = some (.cells (setA sn s (.bool true)) 4 (0, 0)) ∧ m (N4 + 1) = some (.cells (wcells (w + 1)) 126 (0, 0)) ∧ ∀ y, y ∈ (Pl S n s).take j → ¬ 0 < dg y)
        (fun id m => id = 4 ∧ ∃ y, y ∈ Pl S n s ∧ 0 < dg y ∧ Marks m (mark N8 :: D') ∧ m N2 = some (.cells #[.int .i64 ((y : Nat) : Int)] 3 (0, 0)) ∧ m N4 = some (.cells (setA sn s (.bool true)) 4 (0, 0)) ∧ m (N4 + 1) = some (.cells (wcells (w + 1)) 126 (0, 0))) 9 ?_ ?_ ?_ ?_ ?_
      · intro hm
        have hXm : Ext m (hset m N8 (.deferred (some []))) := (Ext.refl m).fresh hm _
        exact ⟨hM.cons hm, hXm _ _ g6, hXm _ _ g7, hXm _ _ g8, fun y hy => by simp at hy⟩
      · intro x h' N' r Q' hQ
        refine c_region (by kernel_rfl) ?_
        refine st_q (ok_assign (v := .int _ _) rfl ⟨rfl, rfl, rfl⟩) ?_
        refine o_nil ?_
        exact hQ
      · clear hS hS2 hM g6 g7 g8
        rintro j x m h' N' o r hx ⟨hM, g6, g7, g8, hno⟩ hd hS hXo
        have hxP := List.mem_of_getElem? hx
        have hxn := (mem_Pl.1 hxP).1
        refine c_block ?_
        refine c_seq ?_
        refine c_region (by kernel_rfl) ?_
        refine st_q (ok_load (ty rfl) rfl (hS.oth _ _ (hXo _ _ hC2.xf)) rfl ⟨rfl, rfl, rfl⟩) ?_
        refine st_q (ok_move (v := .int _ _) rfl ⟨rfl, rfl, rfl⟩) ?_
        refine st (ok_call rfl ent24 (hstk _ _ x (hx2.trans (hXo.trans hS.oth)) hxn) rfl ?_); rintro _ h9 N9 ⟨rfl, rfl, rfl⟩; refine o_nil ?_
        refine n_then ?_
        refine c_cond_prop rfl (fun hc2 => ?_) (fun hc2 => ?_)
        · skip
          refine c_seq ?_
          refine c_region (by kernel_rfl) ?_
          refine st_q (ok_move (v := .int _ _) rfl ⟨rfl, rfl, rfl⟩) ?_
          refine st0 (ok_store (ty rfl) rfl (v := .int _ _) rfl rfl (hS.own _ _ g6) (Nat.le_of_ble_eq_true rfl) ?_)
          refine o_nil ?_
          refine n_then ?_
          refine c_exit ?_
          refine x_block_ne (by decide) ⟨_, hS.set g6 _, (hset_ne _ _ (ne_of_obj hd g6 (by intro e; cases e))).trans hd, rfl, x, hxP, hc2, hM.set g6, hset_same _ _ _, (hset_ne _ _ (ne_of_ty g7 g6 rfl)).trans g7, (hset_ne _ _ (ne_of_ty g8 g6 rfl)).trans g8⟩
        · skip
          refine c_skip ?_
          refine n_block ⟨m, hS, hd, hM, g6, g7, g8, fun y hy => ?_⟩
          rcases mem_take_succ hx hy with h2 | h2
          · exact hno y h2
          · rw [h2]; exact hc2
      · rintro m' h' N' ⟨_, _, _, _, hno⟩ _ _
        obtain ⟨z, hz1, hz2, hz3⟩ := hpr s hsn hss
        rw [List.take_length] at hno
        exact absurd hz3 (hno z (mem_Pl.2 ⟨hz1, hz2⟩))
      · rintro id m' h' N' ⟨rfl, y, hyP, hy, hM, g6, g7, g8⟩ hS hd
        refine c_exit (x_block ?_)
        have hyS := mem_Pl.1 hyP
        refine n_block (n_then ⟨uns n (fun x => if x = s then true else sv x), by omega, m', y, w + 1, _, _, hyS.1, hy, rfl, by omega, hS.dropX hx2, hM, g6, g7, by rw [setA_size]; exact hz7, hv7', g8, fun x hx hxs => ?_, rfl, rfl, rfl, rfl, rfl, rfl, trivial⟩)
        by_cases e : x = s
        · rw [e]; exact .one hyS.2
        · simp only [e, if_false] at hxs
          exact (TC.one hyS.2).trans (hseen x hx hxs)
    · skip
      have hs1 : sv s = true := by simpa using hc
      have hcy := hseen s hsn hs1
      clear hseen hv7 hc
      refine c_exit ?_
      refine x_then (x_then (x_block (n_then ?_)))
      refine c_seq ?_
      refine c_region (by kernel_rfl) ?_
      refine st (ok_alloc (ty rfl) rfl (fun hN10 => ?_))
      refine o_nil ?_
      refine n_then ?_
      have hmB : m N5 = none := hS.own.back (hN10 _ (Nat.le_refl _))
      have hS1 := hS.push hN10 (.cells (wcells 0) 126 (0, 0))
      have e1 := (Ext.refl m).fresh hmB (.cells (wcells 0) 126 (0, 0))
      have b1 := hset_same m N5 (.cells (wcells 0) 126 (0, 0))
      refine c_seq ?_
      refine c_region (by kernel_rfl) ?_
      refine st_q (ok_fieldAddr (fld rfl) rfl ⟨rfl, rfl, rfl⟩) ?_
      refine st_q (ok_load (ty rfl) rfl (hS1.oth _ _ hC.xg) rfl ⟨rfl, rfl, rfl⟩) ?_
      refine st_q (ok_len (sl rfl) rfl ⟨rfl, rfl, rfl⟩) ?_
      refine st (ok_call rfl ent43 (begin_ok (hS1.own _ _ b1) (by omega)) rfl ?_)
      rintro _ h6 N6 ⟨rfl, rfl, rfl⟩
      refine o_nil ?_
      refine n_then ?_
      have hS2 := hS1.set b1 (.cells (wcells (0 + 1)) 126 (0, 0))
      rw [hset_hset m] at hS2
      have g82 : (hset m N5 (.cells (wcells (0 + 1)) 126 (0, 0))) (N4 + 1) = _ := (hset_ne _ _ (ne_of_none g8 hmB)).trans g8
      refine c_seq ?_
      refine c_region (by kernel_rfl) ?_
      refine st_q (ok_fieldAddr (fld rfl) rfl ⟨rfl, rfl, rfl⟩) ?_
      refine st_q (ok_load (ty rfl) rfl (hS2.oth _ _ hC.xg) rfl ⟨rfl, rfl, rfl⟩) ?_
      refine st_q (ok_len (sl rfl) rfl ⟨rfl, rfl, rfl⟩) ?_
      refine st (ok_call rfl ent43 (begin_ok (hS2.own _ _ g82) (by omega)) rfl ?_)
      rintro _ h6 N6 ⟨rfl, rfl, rfl⟩
      refine o_nil ?_
      refine n_then ?_
      have hS3 := hS2.set g82 (.cells (wcells (w + 1)) 126 (0, 0))
      have g63 : (hset (hset m N5 (.cells (wcells (0 + 1)) 126 (0, 0))) (N4 + 1) (.cells (wcells (w + 1)) 126 (0, 0))) N2 = _ := (hset_ne _ _ (ne_of_ty g6 g8 rfl)).trans ((hset_ne _ _ (ne_of_none g6 hmB)).trans g6)
      have hM3 := (hM.ext ((Ext.refl m).fresh hmB (.cells (wcells (0 + 1)) 126 (0, 0)))).set (o := .cells (wcells (w + 1)) 126 (0, 0)) g82
      refine c_heap (fun h' _ => ∃ m, Sep m X h' ∧ Marks m D ∧ m N2 = some (.cells #[.int .i64 (s : Int)] 3 (0, 0))) ⟨_, hS3, hM3, g63⟩ ?_
      clear hS hS1 hS2 hS3 hM hM3 g6 g63 g7 g8 g82 b1 e1 hmB
      rintro h6 N6 ⟨m, hS, hM, g6⟩
      refine c_seq ?_
      refine c_region (by kernel_rfl) ?_
      refine st_q (ok_makeFunc rfl rfl ⟨rfl, rfl, rfl⟩) ?_
      refine st_q (ok_assign (v := .func _ _ _) rfl ⟨rfl, rfl, rfl⟩) ?_
      refine o_nil ?_
      refine n_then ?_
      refine c_seq ?_
      obtain ⟨vq, q1, q2, q3⟩ := hC.pred.top
      have hqs := q3 s hsn
      have hOs := hC.pred.own s hsn
      obtain ⟨aq, cq, eV, _, _⟩ := hOs.row
      rw [eV] at hqs hOs
      refine c_cut (fun E h' _ D' => D' = D ∧ ∃ hA mP xs u, Sep mP hA h' ∧ Ext h6 hA ∧ Own mP 3 1 u (ints xs) ∧ 2 ≤ xs.length ∧ xs.length ≤ 200 ∧ E 12 = u) ?_ ?_
      · skip
        refine c_draw mixed [0, 0, 0, 0, 0, 0, 0, 0, 0, 0, 0, 0, 2, 2] 15 rfl [((0, 2), [((5, 2), [((6, 1), [((7, 1), [((8, 2), [((9, 1), [((10, 2), [((11, 1), [((1, 0), [((2, 2), [((3, 0), [((4, 0), [((12, 0), [((13, 0), [((14, 2), ())])])]), ((12, 0), [((4, 1), [((13, 0), [((14, 2), ())])])])]), ((4, 0), [((3, 0), [((12, 0), [((13, 0), [((14, 2), ())])])]), ((12, 0), [((3, 1), [((13, 0), [((14, 2), ())])])])]), ((12, 0), [((3, 1), [((4, 1), [((13, 0), [((14, 2), ())])])])])])]), ((3, 0), [((1, 0), [((2, 2), [((4, 0), [((12, 0), [((13, 0), [((14, 2), ())])])]), ((12, 0), [((4, 1), [((13, 0), [((14, 2), ())])])])])]), ((4, 0), [((1, 0), [((2, 2), [((12, 0), [((13, 0), [((14, 2), ())])])])]), ((12, 0), [((1, 1), [((2, 2), [((13, 0), [((14, 2), ())])])])])]), ((12, 0), [((1, 1), [((2, 2), [((4, 1), [((13, 0), [((14, 2), ())])])])])])]), ((4, 0), [((1, 0), [((2, 2), [((3, 0), [((12, 0), [((13, 0), [((14, 2), ())])])]), ((12, 0), [((3, 1), [((13, 0), [((14, 2), ())])])])])]), ((3, 0), [((1, 0), [((2, 2), [((12, 0), [((13, 0), [((14, 2), ())])])])]), ((12, 0), [((1, 1), [((2, 2), [((13, 0), [((14, 2), ())])])])])]), ((12, 0), [((1, 1), [((2, 2), [((3, 1), [((13, 0), [((14, 2), ())])])])])])]), ((12, 0), [((1, 1), [((2, 2), [((3, 1), [((4, 1), [((13, 0), [((14, 2), ())])])])])])])])])])])])])])])] (by kernel_rfl) (by kernel_rfl) ?_
        refine w_p rfl (fun _ _ => ok_fieldAddr (fld rfl) rfl ⟨rfl, rfl, rfl⟩) ?_
        refine w_p rfl (fun _ _ => ok_move (v := .func _ _ _) rfl ⟨rfl, rfl, rfl⟩) ?_
        refine w_r rfl (fun _ _ hExt => ok_loadAgg (ty rfl) rfl (hExt _ _ (hS.oth _ _ hC.xg)) (Nat.le_of_ble_eq_true rfl) rfl ⟨rfl, rfl, rfl⟩) ?_
        refine w_r rfl (fun _ _ hExt => ok_load (ty rfl) rfl (hExt _ _ (hS.own _ _ g6)) rfl ⟨rfl, rfl, rfl⟩) ?_
        refine w_p rfl (fun _ _ => ok_move (v := .slice _ _ _) rfl ⟨rfl, rfl, rfl⟩) ?_
        refine w_r rfl (fun _ _ hExt => ok_load (ty rfl) rfl (hExt _ _ (hS.own _ _ g6)) rfl ⟨rfl, rfl, rfl⟩) ?_
        refine w_p rfl (fun _ _ => ok_indexAddr (sl rfl) (ty rfl) rfl rfl (by omega) (by omega) (off := s) (by omega) ⟨rfl, rfl, rfl⟩) ?_
        refine w_r rfl (fun _ _ hExt => ok_load (ty rfl) rfl (hExt _ _ (hS.oth _ _ q1)) hqs ⟨rfl, rfl, rfl⟩) ?_
        refine w_cons ?_ (w_cons ?_ (w_cons ?_ (w_cons ?_ (w_none))))
        · skip
          refine w_e rfl (ok_load (ty rfl) rfl (by first | exact hS.oth _ _ hC.xg | exact hY.oth _ _ (hS.oth _ _ hC.xg)) rfl ⟨⟨rfl, rfl⟩, ?_⟩)
          refine w_p rfl (fun _ _ => ok_len (sl rfl) rfl ⟨rfl, rfl, rfl⟩) ?_
          refine w_cons ?_ (w_cons ?_ (w_cons ?_ (w_none)))
          · skip
            refine w_e rfl (ok_load (ty rfl) rfl (by first | exact hS.own _ _ g6 | exact hY.oth _ _ (hS.own _ _ g6)) rfl ⟨⟨rfl, rfl⟩, ?_⟩)
            refine w_cons ?_ (w_cons ?_ (w_none))
            · skip
              refine w_e rfl (ok_load (ty rfl) rfl (by first | exact hS.own _ _ g6 | exact hY.oth _ _ (hS.own _ _ g6)) rfl ⟨⟨rfl, rfl⟩, ?_⟩)
              refine w_e rfl (ok_call rfl ent44 (adjacent_ok) rfl ?_)
              rintro _ h7 N8 ⟨Y, hY, lb, rfl, hA⟩
              refine ⟨trivial, ?_⟩
              refine w_e rfl (ok_call rfl ent46 (shortestPath_ok ((hS.oth.trans hY.oth) _ _ hC.xg) (hR.ext (hC.ext.trans (hS.oth.trans hY.oth))) hSl hSn (hA.ext hY.own) (hOs.ext (hS.oth.trans hY.oth)) hsn hn hcy) rfl ?_)
              rintro u h8 N9 ⟨mP, xs, hP, hO, hx1, hx2⟩
              refine ⟨trivial, ?_⟩
              refine w_p rfl (fun _ _ => ok_assign (v := _) rfl ⟨rfl, rfl, rfl⟩) ?_
              refine w_nil ?_
              exact n_then ⟨rfl, h7, mP, xs, u, hP, hY.oth, hO, hx1, hx2, rfl⟩
            · skip
              refine w_e rfl (ok_call rfl ent44 (adjacent_ok) rfl ?_)
              rintro _ h7 N8 ⟨Y, hY, lb, rfl, hA⟩
              refine ⟨trivial, ?_⟩
              refine w_r rfl (fun _ _ hExt => ok_load (ty rfl) rfl (hExt _ _ (by first | exact hS.own _ _ g6 | exact hY.oth _ _ (hS.own _ _ g6))) rfl ⟨rfl, rfl, rfl⟩) ?_
              refine w_e rfl (ok_call rfl ent46 (shortestPath_ok ((hS.oth.trans hY.oth) _ _ hC.xg) (hR.ext (hC.ext.trans (hS.oth.trans hY.oth))) hSl hSn (hA.ext hY.own) (hOs.ext (hS.oth.trans hY.oth)) hsn hn hcy) rfl ?_)
              rintro u h8 N9 ⟨mP, xs, hP, hO, hx1, hx2⟩
              refine ⟨trivial, ?_⟩
              refine w_p rfl (fun _ _ => ok_assign (v := _) rfl ⟨rfl, rfl, rfl⟩) ?_
              refine w_nil ?_
              exact n_then ⟨rfl, h7, mP, xs, u, hP, hY.oth, hO, hx1, hx2, rfl⟩
          · skip
            refine w_e rfl (ok_load (ty rfl) rfl (by first | exact hS.own _ _ g6 | exact hY.oth _ _ (hS.own _ _ g6)) rfl ⟨⟨rfl, rfl⟩, ?_⟩)
            refine w_cons ?_ (w_cons ?_ (w_none))
            · skip
              refine w_e rfl (ok_load (ty rfl) rfl (by first | exact hS.own _ _ g6 | exact hY.oth _ _ (hS.own _ _ g6)) rfl ⟨⟨rfl, rfl⟩, ?_⟩)
              refine w_e rfl (ok_call rfl ent44 (adjacent_ok) rfl ?_)
              rintro _ h7 N8 ⟨Y, hY, lb, rfl, hA⟩
              refine ⟨trivial, ?_⟩
              refine w_e rfl (ok_call rfl ent46 (shortestPath_ok ((hS.oth.trans hY.oth) _ _ hC.xg) (hR.ext (hC.ext.trans (hS.oth.trans hY.oth))) hSl hSn (hA.ext hY.own) (hOs.ext (hS.oth.trans hY.oth)) hsn hn hcy) rfl ?_)
              rintro u h8 N9 ⟨mP, xs, hP, hO, hx1, hx2⟩
              refine ⟨trivial, ?_⟩
              refine w_p rfl (fun _ _ => ok_assign (v := _) rfl ⟨rfl, rfl, rfl⟩) ?_
              refine w_nil ?_
              exact n_then ⟨rfl, h7, mP, xs, u, hP, hY.oth, hO, hx1, hx2, rfl⟩
            · skip
              refine w_e rfl (ok_call rfl ent44 (adjacent_ok) rfl ?_)
              rintro _ h7 N8 ⟨Y, hY, lb, rfl, hA⟩
              refine ⟨trivial, ?_⟩
              refine w_r rfl (fun _ _ hExt => ok_load (ty rfl) rfl (hExt _ _ (by first | exact hS.own _ _ g6 | exact hY.oth _ _ (hS.own _ _ g6))) rfl ⟨rfl, rfl, rfl⟩) ?_
              refine w_e rfl (ok_call rfl ent46 (shortestPath_ok ((hS.oth.trans hY.oth) _ _ hC.xg) (hR.ext (hC.ext.trans (hS.oth.trans hY.oth))) hSl hSn (hA.ext hY.own) (hOs.ext (hS.oth.trans hY.oth)) hsn hn hcy) rfl ?_)
              rintro u h8 N9 ⟨mP, xs, hP, hO, hx1, hx2⟩
              refine ⟨trivial, ?_⟩
              refine w_p rfl (fun _ _ => ok_assign (v := _) rfl ⟨rfl, rfl, rfl⟩) ?_
              refine w_nil ?_
              exact n_then ⟨rfl, h7, mP, xs, u, hP, hY.oth, hO, hx1, hx2, rfl⟩
          · skip
            refine w_e rfl (ok_call rfl ent44 (adjacent_ok) rfl ?_)
            rintro _ h7 N8 ⟨Y, hY, lb, rfl, hA⟩
            refine ⟨trivial, ?_⟩
            refine w_r rfl (fun _ _ hExt => ok_load (ty rfl) rfl (hExt _ _ (by first | exact hS.own _ _ g6 | exact hY.oth _ _ (hS.own _ _ g6))) rfl ⟨rfl, rfl, rfl⟩) ?_
            refine w_r rfl (fun _ _ hExt => ok_load (ty rfl) rfl (hExt _ _ (by first | exact hS.own _ _ g6 | exact hY.oth _ _ (hS.own _ _ g6))) rfl ⟨rfl, rfl, rfl⟩) ?_
            refine w_e rfl (ok_call rfl ent46 (shortestPath_ok ((hS.oth.trans hY.oth) _ _ hC.xg) (hR.ext (hC.ext.trans (hS.oth.trans hY.oth))) hSl hSn (hA.ext hY.own) (hOs.ext (hS.oth.trans hY.oth)) hsn hn hcy) rfl ?_)
            rintro u h8 N9 ⟨mP, xs, hP, hO, hx1, hx2⟩
            refine ⟨trivial, ?_⟩
            refine w_p rfl (fun _ _ => ok_assign (v := _) rfl ⟨rfl, rfl, rfl⟩) ?_
            refine w_nil ?_
            exact n_then ⟨rfl, h7, mP, xs, u, hP, hY.oth, hO, hx1, hx2, rfl⟩
        · skip
          refine w_e rfl (ok_load (ty rfl) rfl (by first | exact hS.own _ _ g6 | exact hY.oth _ _ (hS.own _ _ g6)) rfl ⟨⟨rfl, rfl⟩, ?_⟩)
          refine w_cons ?_ (w_cons ?_ (w_cons ?_ (w_none)))
          · skip
            refine w_e rfl (ok_load (ty rfl) rfl (by first | exact hS.oth _ _ hC.xg | exact hY.oth _ _ (hS.oth _ _ hC.xg)) rfl ⟨⟨rfl, rfl⟩, ?_⟩)
            refine w_p rfl (fun _ _ => ok_len (sl rfl) rfl ⟨rfl, rfl, rfl⟩) ?_
            refine w_cons ?_ (w_cons ?_ (w_none))
            · skip
              refine w_e rfl (ok_load (ty rfl) rfl (by first | exact hS.own _ _ g6 | exact hY.oth _ _ (hS.own _ _ g6)) rfl ⟨⟨rfl, rfl⟩, ?_⟩)
              refine w_e rfl (ok_call rfl ent44 (adjacent_ok) rfl ?_)
              rintro _ h7 N8 ⟨Y, hY, lb, rfl, hA⟩
              refine ⟨trivial, ?_⟩
              refine w_e rfl (ok_call rfl ent46 (shortestPath_ok ((hS.oth.trans hY.oth) _ _ hC.xg) (hR.ext (hC.ext.trans (hS.oth.trans hY.oth))) hSl hSn (hA.ext hY.own) (hOs.ext (hS.oth.trans hY.oth)) hsn hn hcy) rfl ?_)
              rintro u h8 N9 ⟨mP, xs, hP, hO, hx1, hx2⟩
              refine ⟨trivial, ?_⟩
              refine w_p rfl (fun _ _ => ok_assign (v := _) rfl ⟨rfl, rfl, rfl⟩) ?_
              refine w_nil ?_
              exact n_then ⟨rfl, h7, mP, xs, u, hP, hY.oth, hO, hx1, hx2, rfl⟩
            · skip
              refine w_e rfl (ok_call rfl ent44 (adjacent_ok) rfl ?_)
              rintro _ h7 N8 ⟨Y, hY, lb, rfl, hA⟩
              refine ⟨trivial, ?_⟩
              refine w_r rfl (fun _ _ hExt => ok_load (ty rfl) rfl (hExt _ _ (by first | exact hS.own _ _ g6 | exact hY.oth _ _ (hS.own _ _ g6))) rfl ⟨rfl, rfl, rfl⟩) ?_
              refine w_e rfl (ok_call rfl ent46 (shortestPath_ok ((hS.oth.trans hY.oth) _ _ hC.xg) (hR.ext (hC.ext.trans (hS.oth.trans hY.oth))) hSl hSn (hA.ext hY.own) (hOs.ext (hS.oth.trans hY.oth)) hsn hn hcy) rfl ?_)
              rintro u h8 N9 ⟨mP, xs, hP, hO, hx1, hx2⟩
              refine ⟨trivial, ?_⟩
              refine w_p rfl (fun _ _ => ok_assign (v := _) rfl ⟨rfl, rfl, rfl⟩) ?_
              refine w_nil ?_
              exact n_then ⟨rfl, h7, mP, xs, u, hP, hY.oth, hO, hx1, hx2, rfl⟩
          · skip
            refine w_e rfl (ok_load (ty rfl) rfl (by first | exact hS.own _ _ g6 | exact hY.oth _ _ (hS.own _ _ g6)) rfl ⟨⟨rfl, rfl⟩, ?_⟩)
            refine w_cons ?_ (w_cons ?_ (w_none))
            · skip
              refine w_e rfl (ok_load (ty rfl) rfl (by first | exact hS.oth _ _ hC.xg | exact hY.oth _ _ (hS.oth _ _ hC.xg)) rfl ⟨⟨rfl, rfl⟩, ?_⟩)
              refine w_p rfl (fun _ _ => ok_len (sl rfl) rfl ⟨rfl, rfl, rfl⟩) ?_
              refine w_e rfl (ok_call rfl ent44 (adjacent_ok) rfl ?_)
              rintro _ h7 N8 ⟨Y, hY, lb, rfl, hA⟩
              refine ⟨trivial, ?_⟩
              refine w_e rfl (ok_call rfl ent46 (shortestPath_ok ((hS.oth.trans hY.oth) _ _ hC.xg) (hR.ext (hC.ext.trans (hS.oth.trans hY.oth))) hSl hSn (hA.ext hY.own) (hOs.ext (hS.oth.trans hY.oth)) hsn hn hcy) rfl ?_)
              rintro u h8 N9 ⟨mP, xs, hP, hO, hx1, hx2⟩
              refine ⟨trivial, ?_⟩
              refine w_p rfl (fun _ _ => ok_assign (v := _) rfl ⟨rfl, rfl, rfl⟩) ?_
              refine w_nil ?_
              exact n_then ⟨rfl, h7, mP, xs, u, hP, hY.oth, hO, hx1, hx2, rfl⟩
            · skip
              refine w_e rfl (ok_call rfl ent44 (adjacent_ok) rfl ?_)
              rintro _ h7 N8 ⟨Y, hY, lb, rfl, hA⟩
              refine ⟨trivial, ?_⟩
              refine w_r rfl (fun _ _ hExt => ok_load (ty rfl) rfl (hExt _ _ (by first | exact hS.oth _ _ hC.xg | exact hY.oth _ _ (hS.oth _ _ hC.xg))) rfl ⟨rfl, rfl, rfl⟩) ?_
              refine w_p rfl (fun _ _ => ok_len (sl rfl) rfl ⟨rfl, rfl, rfl⟩) ?_
              refine w_e rfl (ok_call rfl ent46 (shortestPath_ok ((hS.oth.trans hY.oth) _ _ hC.xg) (hR.ext (hC.ext.trans (hS.oth.trans hY.oth))) hSl hSn (hA.ext hY.own) (hOs.ext (hS.oth.trans hY.oth)) hsn hn hcy) rfl ?_)
              rintro u h8 N9 ⟨mP, xs, hP, hO, hx1, hx2⟩
              refine ⟨trivial, ?_⟩
              refine w_p rfl (fun _ _ => ok_assign (v := _) rfl ⟨rfl, rfl, rfl⟩) ?_
              refine w_nil ?_
              exact n_then ⟨rfl, h7, mP, xs, u, hP, hY.oth, hO, hx1, hx2, rfl⟩
          · skip
            refine w_e rfl (ok_call rfl ent44 (adjacent_ok) rfl ?_)
            rintro _ h7 N8 ⟨Y, hY, lb, rfl, hA⟩
            refine ⟨trivial, ?_⟩
            refine w_r rfl (fun _ _ hExt => ok_load (ty rfl) rfl (hExt _ _ (by first | exact hS.oth _ _ hC.xg | exact hY.oth _ _ (hS.oth _ _ hC.xg))) rfl ⟨rfl, rfl, rfl⟩) ?_
            refine w_p rfl (fun _ _ => ok_len (sl rfl) rfl ⟨rfl, rfl, rfl⟩) ?_
            refine w_r rfl (fun _ _ hExt => ok_load (ty rfl) rfl (hExt _ _ (by first | exact hS.own _ _ g6 | exact hY.oth _ _ (hS.own _ _ g6))) rfl ⟨rfl, rfl, rfl⟩) ?_
            refine w_e rfl (ok_call rfl ent46 (shortestPath_ok ((hS.oth.trans hY.oth) _ _ hC.xg) (hR.ext (hC.ext.trans (hS.oth.trans hY.oth))) hSl hSn (hA.ext hY.own) (hOs.ext (hS.oth.trans hY.oth)) hsn hn hcy) rfl ?_)
            rintro u h8 N9 ⟨mP, xs, hP, hO, hx1, hx2⟩
            refine ⟨trivial, ?_⟩
            refine w_p rfl (fun _ _ => ok_assign (v := _) rfl ⟨rfl, rfl, rfl⟩) ?_
            refine w_nil ?_
            exact n_then ⟨rfl, h7, mP, xs, u, hP, hY.oth, hO, hx1, hx2, rfl⟩
        · skip
          refine w_e rfl (ok_load (ty rfl) rfl (by first | exact hS.own _ _ g6 | exact hY.oth _ _ (hS.own _ _ g6)) rfl ⟨⟨rfl, rfl⟩, ?_⟩)
          refine w_cons ?_ (w_cons ?_ (w_cons ?_ (w_none)))
          · skip
            refine w_e rfl (ok_load (ty rfl) rfl (by first | exact hS.oth _ _ hC.xg | exact hY.oth _ _ (hS.oth _ _ hC.xg)) rfl ⟨⟨rfl, rfl⟩, ?_⟩)
            refine w_p rfl (fun _ _ => ok_len (sl rfl) rfl ⟨rfl, rfl, rfl⟩) ?_
            refine w_cons ?_ (w_cons ?_ (w_none))
            · skip
              refine w_e rfl (ok_load (ty rfl) rfl (by first | exact hS.own _ _ g6 | exact hY.oth _ _ (hS.own _ _ g6)) rfl ⟨⟨rfl, rfl⟩, ?_⟩)
              refine w_e rfl (ok_call rfl ent44 (adjacent_ok) rfl ?_)
              rintro _ h7 N8 ⟨Y, hY, lb, rfl, hA⟩
              refine ⟨trivial, ?_⟩
              refine w_e rfl (ok_call rfl ent46 (shortestPath_ok ((hS.oth.trans hY.oth) _ _ hC.xg) (hR.ext (hC.ext.trans (hS.oth.trans hY.oth))) hSl hSn (hA.ext hY.own) (hOs.ext (hS.oth.trans hY.oth)) hsn hn hcy) rfl ?_)
              rintro u h8 N9 ⟨mP, xs, hP, hO, hx1, hx2⟩
              refine ⟨trivial, ?_⟩
              refine w_p rfl (fun _ _ => ok_assign (v := _) rfl ⟨rfl, rfl, rfl⟩) ?_
              refine w_nil ?_
              exact n_then ⟨rfl, h7, mP, xs, u, hP, hY.oth, hO, hx1, hx2, rfl⟩
            · skip
              refine w_e rfl (ok_call rfl ent44 (adjacent_ok) rfl ?_)
              rintro _ h7 N8 ⟨Y, hY, lb, rfl, hA⟩
              refine ⟨trivial, ?_⟩
              refine w_r rfl (fun _ _ hExt => ok_load (ty rfl) rfl (hExt _ _ (by first | exact hS.own _ _ g6 | exact hY.oth _ _ (hS.own _ _ g6))) rfl ⟨rfl, rfl, rfl⟩) ?_
              refine w_e rfl (ok_call rfl ent46 (shortestPath_ok ((hS.oth.trans hY.oth) _ _ hC.xg) (hR.ext (hC.ext.trans (hS.oth.trans hY.oth))) hSl hSn (hA.ext hY.own) (hOs.ext (hS.oth.trans hY.oth)) hsn hn hcy) rfl ?_)
              rintro u h8 N9 ⟨mP, xs, hP, hO, hx1, hx2⟩
              refine ⟨trivial, ?_⟩
              refine w_p rfl (fun _ _ => ok_assign (v := _) rfl ⟨rfl, rfl, rfl⟩) ?_
              refine w_nil ?_
              exact n_then ⟨rfl, h7, mP, xs, u, hP, hY.oth, hO, hx1, hx2, rfl⟩
          · skip
            refine w_e rfl (ok_load (ty rfl) rfl (by first | exact hS.own _ _ g6 | exact hY.oth _ _ (hS.own _ _ g6)) rfl ⟨⟨rfl, rfl⟩, ?_⟩)
            refine w_cons ?_ (w_cons ?_ (w_none))
            · skip
              refine w_e rfl (ok_load (ty rfl) rfl (by first | exact hS.oth _ _ hC.xg | exact hY.oth _ _ (hS.oth _ _ hC.xg)) rfl ⟨⟨rfl, rfl⟩, ?_⟩)
              refine w_p rfl (fun _ _ => ok_len (sl rfl) rfl ⟨rfl, rfl, rfl⟩) ?_
              refine w_e rfl (ok_call rfl ent44 (adjacent_ok) rfl ?_)
              rintro _ h7 N8 ⟨Y, hY, lb, rfl, hA⟩
              refine ⟨trivial, ?_⟩
              refine w_e rfl (ok_call rfl ent46 (shortestPath_ok ((hS.oth.trans hY.oth) _ _ hC.xg) (hR.ext (hC.ext.trans (hS.oth.trans hY.oth))) hSl hSn (hA.ext hY.own) (hOs.ext (hS.oth.trans hY.oth)) hsn hn hcy) rfl ?_)
              rintro u h8 N9 ⟨mP, xs, hP, hO, hx1, hx2⟩
              refine ⟨trivial, ?_⟩
              refine w_p rfl (fun _ _ => ok_assign (v := _) rfl ⟨rfl, rfl, rfl⟩) ?_
              refine w_nil ?_
              exact n_then ⟨rfl, h7, mP, xs, u, hP, hY.oth, hO, hx1, hx2, rfl⟩
            · skip
              refine w_e rfl (ok_call rfl ent44 (adjacent_ok) rfl ?_)
              rintro _ h7 N8 ⟨Y, hY, lb, rfl, hA⟩
              refine ⟨trivial, ?_⟩
              refine w_r rfl (fun _ _ hExt => ok_load (ty rfl) rfl (hExt _ _ (by first | exact hS.oth _ _ hC.xg | exact hY.oth _ _ (hS.oth _ _ hC.xg))) rfl ⟨rfl, rfl, rfl⟩) ?_
              refine w_p rfl (fun _ _ => ok_len (sl rfl) rfl ⟨rfl, rfl, rfl⟩) ?_
              refine w_e rfl (ok_call rfl ent46 (shortestPath_ok ((hS.oth.trans hY.oth) _ _ hC.xg) (hR.ext (hC.ext.trans (hS.oth.trans hY.oth))) hSl hSn (hA.ext hY.own) (hOs.ext (hS.oth.trans hY.oth)) hsn hn hcy) rfl ?_)
              rintro u h8 N9 ⟨mP, xs, hP, hO, hx1, hx2⟩
              refine ⟨trivial, ?_⟩
              refine w_p rfl (fun _ _ => ok_assign (v := _) rfl ⟨rfl, rfl, rfl⟩) ?_
              refine w_nil ?_
              exact n_then ⟨rfl, h7, mP, xs, u, hP, hY.oth, hO, hx1, hx2, rfl⟩
          · skip
            refine w_e rfl (ok_call rfl ent44 (adjacent_ok) rfl ?_)
            rintro _ h7 N8 ⟨Y, hY, lb, rfl, hA⟩
            refine ⟨trivial, ?_⟩
            refine w_r rfl (fun _ _ hExt => ok_load (ty rfl) rfl (hExt _ _ (by first | exact hS.oth _ _ hC.xg | exact hY.oth _ _ (hS.oth _ _ hC.xg))) rfl ⟨rfl, rfl, rfl⟩) ?_
            refine w_p rfl (fun _ _ => ok_len (sl rfl) rfl ⟨rfl, rfl, rfl⟩) ?_
            refine w_r rfl (fun _ _ hExt => ok_load (ty rfl) rfl (hExt _ _ (by first | exact hS.own _ _ g6 | exact hY.oth _ _ (hS.own _ _ g6))) rfl ⟨rfl, rfl, rfl⟩) ?_
            refine w_e rfl (ok_call rfl ent46 (shortestPath_ok ((hS.oth.trans hY.oth) _ _ hC.xg) (hR.ext (hC.ext.trans (hS.oth.trans hY.oth))) hSl hSn (hA.ext hY.own) (hOs.ext (hS.oth.trans hY.oth)) hsn hn hcy) rfl ?_)
            rintro u h8 N9 ⟨mP, xs, hP, hO, hx1, hx2⟩
            refine ⟨trivial, ?_⟩
            refine w_p rfl (fun _ _ => ok_assign (v := _) rfl ⟨rfl, rfl, rfl⟩) ?_
            refine w_nil ?_
            exact n_then ⟨rfl, h7, mP, xs, u, hP, hY.oth, hO, hx1, hx2, rfl⟩
        · skip
          refine w_e rfl (ok_call rfl ent44 (adjacent_ok) rfl ?_)
          rintro _ h7 N8 ⟨Y, hY, lb, rfl, hA⟩
          refine ⟨trivial, ?_⟩
          refine w_r rfl (fun _ _ hExt => ok_load (ty rfl) rfl (hExt _ _ (by first | exact hS.oth _ _ hC.xg | exact hY.oth _ _ (hS.oth _ _ hC.xg))) rfl ⟨rfl, rfl, rfl⟩) ?_
          refine w_p rfl (fun _ _ => ok_len (sl rfl) rfl ⟨rfl, rfl, rfl⟩) ?_
          refine w_r rfl (fun _ _ hExt => ok_load (ty rfl) rfl (hExt _ _ (by first | exact hS.own _ _ g6 | exact hY.oth _ _ (hS.own _ _ g6))) rfl ⟨rfl, rfl, rfl⟩) ?_
          refine w_r rfl (fun _ _ hExt => ok_load (ty rfl) rfl (hExt _ _ (by first | exact hS.own _ _ g6 | exact hY.oth _ _ (hS.own _ _ g6))) rfl ⟨rfl, rfl, rfl⟩) ?_
          refine w_e rfl (ok_call rfl ent46 (shortestPath_ok ((hS.oth.trans hY.oth) _ _ hC.xg) (hR.ext (hC.ext.trans (hS.oth.trans hY.oth))) hSl hSn (hA.ext hY.own) (hOs.ext (hS.oth.trans hY.oth)) hsn hn hcy) rfl ?_)
          rintro u h8 N9 ⟨mP, xs, hP, hO, hx1, hx2⟩
          refine ⟨trivial, ?_⟩
          refine w_p rfl (fun _ _ => ok_assign (v := _) rfl ⟨rfl, rfl, rfl⟩) ?_
          refine w_nil ?_
          exact n_then ⟨rfl, h7, mP, xs, u, hP, hY.oth, hO, hx1, hx2, rfl⟩
      rintro E h8 N8 D' ⟨rfl, hA, mP, xs, u, hP, hxA, hO, hx1, hx2, hE12⟩
      refine n_then ?_
      rcases hO with ⟨_, h2⟩ | ⟨b, n', c', cs, rfl, p2, p3, p4, p5, p6⟩
      · have : xs = [] := by simpa [ints] using h2
        rw [this] at hx1; simp at hx1
      have hnl : n' = xs.length := by rw [← ints_len xs]; omega
      subst hnl
      obtain ⟨E3, rfl⟩ := Fr.ex (E := E) (l := [(12, _)]) ⟨hE12, trivial⟩
      refine c_seq ?_
      refine c_seq ?_
      refine c_region (by kernel_rfl) ?_
      refine st_q (ok_move (v := .slice _ _ _) rfl ⟨rfl, rfl, rfl⟩) ?_
      refine st_q (ok_eql_nil (sl rfl) rfl rfl ⟨rfl, rfl, rfl⟩) ?_; refine o_nil ?_
      refine n_then ?_
      refine c_cond_false rfl ?_
      refine c_skip ?_
      refine n_then ?_
      refine c_seq ?_
      refine c_region (by kernel_rfl) ?_
      refine st_q (ok_move (v := .slice _ _ _) rfl ⟨rfl, rfl, rfl⟩) ?_
      refine st_q (ok_move (v := .slice _ _ _) rfl ⟨rfl, rfl, rfl⟩) ?_
      refine st_q (ok_len (sl rfl) rfl ⟨rfl, rfl, rfl⟩) ?_
      refine st_q (ok_sub rfl rfl (by omega) (by omega) ⟨rfl, rfl, rfl⟩) ?_
      refine st_q (ok_slice_hi (sl rfl) (ty rfl) rfl rfl (by omega) (by omega) ⟨rfl, rfl, rfl⟩) ?_
      refine st_q (ok_assign (v := .slice _ _ _) rfl ⟨rfl, rfl, rfl⟩) ?_
      refine o_nil ?_
      refine n_then ?_
      have hyl : (xs.take (xs.length - 1)).length = xs.length - 1 := by simp
      have hyt : cs.toList.take ((xs.take (xs.length - 1)).length * 1) = ints (xs.take (xs.length - 1)) := by
        rw [hyl]
        have := congrArg (List.take ((xs.length - 1) * 1)) p6
        rw [List.take_take, Nat.min_eq_left (by omega)] at this
        rw [this]; simp [ints, List.map_take]
      rw [show ((xs.length : Int) - 1).toNat = (xs.take (xs.length - 1)).length from by omega]
      generalize xs.take (xs.length - 1) = ys at *
      have hyne : ys ≠ [] := fun e => by rw [e] at hyl; simp at hyl; omega
      refine c_seq ?_
      refine c_region (by kernel_rfl) ?_
      refine st_q (ok_move (v := .slice _ _ _) rfl ⟨rfl, rfl, rfl⟩) ?_
      refine st_q (ok_move (v := .slice _ _ _) rfl ⟨rfl, rfl, rfl⟩) ?_
      refine st (ok_call rfl ent48 (min_ok (hP.own _ _ p2) hyt hyne (by omega)) rfl ?_)
      rintro _ h9 N9 ⟨⟨y, hy, rfl⟩, rfl, rfl⟩
      refine st (ok_call rfl ent47 (index_ok (hP.own _ _ p2) hyt hy (by omega)) rfl ?_)
      rintro _ h9 N9 ⟨⟨q, hq, rfl⟩, rfl, rfl⟩
      refine st_q (ok_assign (v := .int _ _) rfl ⟨rfl, rfl, rfl⟩) ?_
      refine o_nil ?_
      refine n_then ?_
      refine c_seq ?_
      have hqc : q < c' := by omega
      refine c_cut (fun E h' _ D2 => D2 = D' ∧ ∃ hB mQ u zs, Sep mQ hB h' ∧ Ext h9 hB ∧ Own mQ 3 1 u (ints zs) ∧ 0 < zs.length ∧ zs.length ≤ 1000 ∧ E 12 = u) ?_ ?_
      · skip
        have hcat : cat (fun j => if j = 0 then ys.drop q else ys.take q) 2 = ys.drop q ++ ys.take q := by simp [cat]
        have hcl : (cat (fun j => if j = 0 then ys.drop q else ys.take q) 2).length = ys.length := by rw [hcat]; simp; omega
        have hcsz : ys.length ≤ cs.size := by omega
        have hex : ∀ a b, a + b ≤ ys.length → (cs.extract a (a + b)).toList = ints ((ys.drop a).take b) := by
          intro a b hab
          apply List.ext_getElem?
          intro k
          simp only [Array.getElem?_toList, Array.getElem?_extract, ints, List.getElem?_map, List.getElem?_take, List.getElem?_drop]
          by_cases hk : k < b
          · rw [if_pos (by omega), if_pos hk]
            have := row_of hyt (a + k) (by omega)
            rw [this, List.getElem?_eq_getElem (by omega)]; rfl
          · rw [if_neg (by omega), if_neg hk]; rfl
        refine c_draw mixed [0, 0, 0, 0, 0, 0, 1, 2] 9 rfl [((0, 2), [((1, 2), [((2, 2), [((3, 2), [((4, 2), [((5, 2), [((6, 0), [((7, 0), [((8, 2), ())])])])])])])])])] (by kernel_rfl) (by kernel_rfl) ?_
        refine w_p rfl (fun _ _ => ok_move (v := .slice _ _ _) rfl ⟨rfl, rfl, rfl⟩) ?_
        refine w_p rfl (fun _ _ => ok_move (v := .int _ _) rfl ⟨rfl, rfl, rfl⟩) ?_
        refine w_p rfl (fun _ _ => ok_slice_lo (sl rfl) (ty rfl) rfl rfl (by omega) (by omega) (o' := q) (n' := (ys.length - q)) (c' := (c' - q)) (by rw [if_neg (by omega)]; omega) (by omega) (by omega) ⟨rfl, rfl, rfl⟩) ?_
        refine w_p rfl (fun _ _ => ok_move (v := .slice _ _ _) rfl ⟨rfl, rfl, rfl⟩) ?_
        refine w_p rfl (fun _ _ => ok_move (v := .int _ _) rfl ⟨rfl, rfl, rfl⟩) ?_
        refine w_p rfl (fun _ _ => ok_slice_hi (sl rfl) (ty rfl) rfl rfl (by omega) (by omega) ⟨rfl, rfl, rfl⟩) ?_
        refine w_e rfl (ok_buildSlice (sl rfl) (ty rfl) rfl (vs := #[.slice (some ⟨b, q, none⟩) (ys.length - q) (c' - q), .slice (some ⟨b, 0, none⟩) q c']) (by kernel_rfl) (by decide) (by decide) (fun hN91 => ⟨.inr ⟨_, rfl, rfl⟩, ?_⟩))
        refine w_e rfl (ok_call rfl ent49 (concat_ok (p := 2) (pt := fun j => if j = 0 then ys.drop q else ys.take q) (of := fun j => if j = 0 then q else 0) (ln := fun j => if j = 0 then ys.length - q else q) (cp := fun j => if j = 0 then c' - q else c') (hset_same _ _ _) (fun j hj => by match j with | 0 => rfl | 1 => rfl) (Ext.push hN91 _ _ _ (hP.own _ _ p2)) (fun j hj => by match j with | 0 => (simp only [if_true]; rw [hex q (ys.length - q) (by omega), List.take_of_length_le (by simp)]) | 1 => (simp only [Nat.one_ne_zero, if_false]; rw [hex 0 q (by omega)]; simp)) (fun j hj => by match j with | 0 => (simp only [if_true]; omega) | 1 => (simp only [Nat.one_ne_zero, if_false]; omega)) (by omega) (by omega) (by omega)) rfl ?_)
        rintro u h10 N10 ⟨mQ, hQ, hOQ⟩
        refine ⟨trivial, ?_⟩
        refine w_p rfl (fun _ _ => ok_assign (v := _) rfl ⟨rfl, rfl, rfl⟩) ?_
        refine w_nil ?_
        exact n_then ⟨rfl, _, mQ, u, _, hQ, Ext.push hN91 _, hOQ, by omega, by omega, rfl⟩
      rintro E h10 N10 D2 ⟨rfl, hB, mQ, u, zs, hQ, hxB, hOQ, hz1, hz2, hE12⟩
      refine n_then ?_
      have hz0 := List.getElem?_eq_getElem hz1
      obtain ⟨aQ, cQ, rfl, _, hrow⟩ := hOQ.row
      obtain ⟨bQ, csQ, rfl, gQ, g0⟩ := hrow 0 _ hz0
      generalize zs[0] = z at *
      obtain ⟨E4, rfl⟩ := Fr.ex (E := E) (l := [(12, _)]) ⟨hE12, trivial⟩
      refine c_seq ?_
      have hzl := ints_len zs
      refine c_region (by kernel_rfl) ?_
      refine st_q (ok_move (v := .slice _ _ _) rfl ⟨rfl, rfl, rfl⟩) ?_
      refine st_q (ok_move (v := .slice _ _ _) rfl ⟨rfl, rfl, rfl⟩) ?_
      refine st_q (ok_indexAddr (sl rfl) (ty rfl) rfl rfl (by omega) (by omega) (off := 0) (by omega) ⟨rfl, rfl, rfl⟩) ?_
      refine st_q (ok_load (ty rfl) rfl (hQ.own _ _ gQ) g0 ⟨rfl, rfl, rfl⟩) ?_
      refine st (ok_buildSlice (sl rfl) (ty rfl) rfl (vs := #[.int .i64 (z : Int)]) (by kernel_rfl) (by decide) (by decide) (fun hN97 => ?_))
      refine st (ok_append rfl (sl rfl) (ty rfl) rfl rfl (hOQ.ext (hQ.own.trans (Ext.push hN97 _))) rfl (hset_same _ _ _) (Nat.le_of_ble_eq_true rfl) (by simp [isOne]) (by decide) (by decide) (by omega) (by omega) (fun b' n' c' cs' N6 hcase hcz hnc hln htk hnq => ?_))
      refine st_q (ok_assign (v := .slice _ _ _) rfl ⟨rfl, rfl, rfl⟩) ?_
      refine o_nil ?_
      have hS5 := hQ.fresh (hN97 _ (Nat.le_refl _)) (.cells #[.int .i64 (z : Int)] 3 (0, 0))
      obtain ⟨hS6, _, _⟩ := own_grow (ys := ints zs ++ [Value.int .i64 (z : Int)]) hS5 hOQ hcase hcz hnc hln htk
      refine n_then ?_
      refine c_ret ?_
      have hfin := hxA.trans (hP.oth.trans (hxB.trans hS6.oth))
      refine r_leave (leave_marks rfl rfl _ m _ hM (hS.own.trans hfin) (fun h'' hh => ⟨fun c o hc => ?_, ⟨_, _, _, rfl⟩, s, hsn, hcy⟩))
      have h1 := hC.ext _ _ hc
      have h2 := hS.notm h1
      rw [hh c (fun o ho => by rw [h2] at ho; cases ho)]
      exact hfin _ _ (hS.oth _ _ h1)
end
end Sx
end Go.Proofs.YbulkcsqkGreat
