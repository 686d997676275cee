import Derived.Test.YbulkcsqkGreatSxTopoGo
namespace Go.Proofs.YbulkcsqkGreat
namespace Sx
set_option maxRecDepth 10000
set_option maxHeartbeats 1000000
variable {w0 : World}

/-- How many nodes below i have an edge to j. -/
def cntTo (S : Nat → List Nat) (i j : Nat) : Nat := ((List.range i).filter (fun k => decide (j ∈ S k))).length
theorem cntTo_succ (S : Nat → List Nat) (i j : Nat) : cntTo S (i + 1) j = cntTo S i j + (if j ∈ S i then 1 else 0) := by
  unfold cntTo
  rw [List.range_succ, List.filter_append, List.length_append]
  congr 1
  by_cases h : j ∈ S i <;> simp [h]
theorem cntTo_le (S : Nat → List Nat) (i j : Nat) : cntTo S i j ≤ i := by
  have := List.length_filter_le (fun k => decide (j ∈ S k)) (List.range i)
  rw [List.length_range] at this
  exact this
theorem cnt_eq (n : Nat) (S : Nat → List Nat) (j : Nat) : cnt n S [] j = cntTo S n j := by
  unfold cnt cntTo
  congr 2
  funext k
  simp

section
variable {h : Hp} {N n nc bs : Nat} {an : Option Addr} {S : Nat → List Nat} {V : Nat → Value}

theorem newTopoSort_ok (hG : Rows h bs n V S) (hSn : ∀ i, i < n → (S i).Nodup) (hSl : ∀ i, i < n → ∀ k, k ∈ S i → k < n) (hn : n ≤ 100) :
    CallsX Ybaz.prog w0 21 #[.agg (gcells an n nc bs)] h N (fun u h' _ => ∃ m bt bi bl bp, u = .pointer (some ⟨bt, 0, none⟩) ∧ Sep m h h' ∧ TS m an n nc bs bt bi bl bp (.slice none 0 0) [] (fun j => cnt n S [] j)) := by
  refine calls_of Ybaz.func21 rfl Ybaz.ntmps21 (Nat.le_of_ble_eq_true rfl) ?_
  refine c_seq ?_
  refine c_region (by kernel_rfl) ?_
  refine st (ok_box (v := .agg _) rfl rfl (fun hN1 => ?_))
  refine st_q (ok_assign (v := .pointer _) rfl ⟨rfl, rfl, rfl⟩) ?_
  refine o_nil ?_
  refine n_then ?_
  refine c_seq ?_
  have hS := (Sep.start h).push hN1 (.cells (gcells an n nc bs) 69 (0, 0))
  refine c_heap (fun h' _ => ∃ m, Sep m h h' ∧ m N = some (.cells (gcells an n nc bs) 69 (0, 0))) ⟨_, hS, hset_same _ _ _⟩ ?_
  clear hS
  rintro h1 N1 ⟨m1, hS, g1⟩
  have hg := hS.own _ _ g1
  refine c_cut (fun E h' _ D => D = [] ∧ ∃ m bt bi bl bp, Fr E [(1, .pointer (some ⟨N, 0, none⟩)), (3, .pointer (some ⟨bt, 0, none⟩))] ∧ Sep m h h' ∧ m N = some (.cells (gcells an n nc bs) 69 (0, 0)) ∧ TS m an n nc bs bt bi bl bp (.slice none 0 0) [] (fun _ => 0)) ?_ ?_
  · skip
    have fin : ∀ (m : Hp) (bt bi bl bp : Nat), m bt = some (.cells (tcells an n nc bs bi bl bp (.slice none 0 0)) 99 (0, 0)) → m bi = some (.cells (madeCells #[.int .i64 0] (n * 1)) 3 (0, 0)) → m bp = some (.cells (madeCells #[.bool false] (n * 1)) 4 (0, 0)) → TS m an n nc bs bt bi bl bp (.slice none 0 0) [] (fun _ => 0) := by
      intro m bt bi bl bp q1 q2 q3
      exact ⟨⟨q1, rfl, .inl ⟨rfl, rfl⟩, rfl⟩, ⟨_, q2, made_size, made_get⟩, ⟨_, q3, made_size⟩, fun e => by cases e⟩
    refine c_draw mixed [0, 0, 0, 0, 1, 0, 0, 0, 1, 0, 0, 0, 1, 0, 1] 16 rfl [((0, 1), [((1, 2), [((2, 1), [((3, 2), [((5, 2), [((6, 1), [((7, 2), [((9, 2), [((10, 1), [((11, 2), [((4, 0), [((8, 0), [((12, 0), [((13, 2), [((14, 0), [((15, 2), ())])])])]), ((12, 0), [((8, 0), [((13, 2), [((14, 0), [((15, 2), ())])])])])]), ((8, 0), [((4, 0), [((12, 0), [((13, 2), [((14, 0), [((15, 2), ())])])])]), ((12, 0), [((4, 0), [((13, 2), [((14, 0), [((15, 2), ())])])])])]), ((12, 0), [((4, 0), [((8, 0), [((13, 2), [((14, 0), [((15, 2), ())])])])]), ((8, 0), [((4, 0), [((13, 2), [((14, 0), [((15, 2), ())])])])])])])])])])])])])])])])] (by kernel_rfl) (by kernel_rfl) ?_
    refine w_r rfl (fun _ _ hExt => ok_loadAgg (ty rfl) rfl (hExt _ _ hg) (Nat.le_of_ble_eq_true rfl) rfl ⟨rfl, rfl, rfl⟩) ?_
    refine w_p rfl (fun _ _ => ok_fieldAddr (fld rfl) rfl ⟨rfl, rfl, rfl⟩) ?_
    refine w_r rfl (fun _ _ hExt => ok_load (ty rfl) rfl (hExt _ _ hg) (by rfl) ⟨rfl, rfl, rfl⟩) ?_
    refine w_p rfl (fun _ _ => ok_len (sl rfl) rfl ⟨rfl, rfl, rfl⟩) ?_
    refine w_p rfl (fun _ _ => ok_fieldAddr (fld rfl) rfl ⟨rfl, rfl, rfl⟩) ?_
    refine w_r rfl (fun _ _ hExt => ok_load (ty rfl) rfl (hExt _ _ hg) (by rfl) ⟨rfl, rfl, rfl⟩) ?_
    refine w_p rfl (fun _ _ => ok_len (sl rfl) rfl ⟨rfl, rfl, rfl⟩) ?_
    refine w_p rfl (fun _ _ => ok_fieldAddr (fld rfl) rfl ⟨rfl, rfl, rfl⟩) ?_
    refine w_r rfl (fun _ _ hExt => ok_load (ty rfl) rfl (hExt _ _ hg) (by rfl) ⟨rfl, rfl, rfl⟩) ?_
    refine w_p rfl (fun _ _ => ok_len (sl rfl) rfl ⟨rfl, rfl, rfl⟩) ?_
    refine w_cons ?_ (w_cons ?_ (w_cons ?_ (w_none)))
    · skip
      refine w_e rfl (ok_makeSlice (sl rfl) (ty rfl) rfl rfl (by omega) (by omega) (by omega) (by omega) (l' := n) (c' := n) (by omega) (by omega) (fun hN16 => ⟨.inr ⟨_, rfl, rfl⟩, ?_⟩))
      have hS := hS.push hN16 (.cells (madeCells #[.int .i64 0] (n * 1)) 3 (0, 0))
      refine w_cons ?_ (w_cons ?_ (w_none))
      · skip
        refine w_e rfl (ok_makeSlice (sl rfl) (ty rfl) rfl rfl (by omega) (by omega) (by omega) (by omega) (l' := 0) (c' := 0) (by omega) (by omega) (fun hN20 => ⟨.inr ⟨_, rfl, rfl⟩, ?_⟩))
        have hS := hS.push hN20 (.cells (madeCells #[.int .i64 0] (0 * 1)) 3 (0, 0))
        refine w_e rfl (ok_makeSlice (sl rfl) (ty rfl) rfl rfl (by omega) (by omega) (by omega) (by omega) (l' := n) (c' := n) (by omega) (by omega) (fun hN24 => ⟨.inr ⟨_, rfl, rfl⟩, ?_⟩))
        have hS := hS.push hN24 (.cells (madeCells #[.bool false] (n * 1)) 4 (0, 0))
        refine w_p rfl (fun _ _ => ok_build rfl (v := .agg (tcells an n nc bs (N1) (N1 + 1) (N1 + 1 + 1) (.slice none 0 0))) (fun _ => by kernel_rfl) ⟨rfl, rfl, rfl⟩) ?_
        refine w_e rfl (ok_box (v := .agg _) rfl rfl (fun hN26 => ⟨.inr ⟨_, rfl, rfl⟩, ?_⟩))
        have hS := hS.push hN26 (.cells (tcells an n nc bs (N1) (N1 + 1) (N1 + 1 + 1) (.slice none 0 0)) 99 (0, 0))
        refine w_p rfl (fun _ _ => ok_assign (v := .pointer _) rfl ⟨rfl, rfl, rfl⟩) ?_
        refine w_nil ?_
        have hlt : N < N1 := (by first | exact lt_of_free hN16 hg | exact lt_of_free hN20 hg | exact lt_of_free hN24 hg); exact n_then ⟨rfl, _, N1 + 1 + 1 + 1, N1, N1 + 1, N1 + 1 + 1, ⟨rfl, rfl, trivial⟩, hS, (by (repeat rw [hset_ne _ _ (by omega)]); exact g1), fin _ _ _ _ _ (by (repeat rw [hset_ne _ _ (by omega)]); exact hset_same _ _ _) (by (repeat rw [hset_ne _ _ (by omega)]); exact hset_same _ _ _) (by (repeat rw [hset_ne _ _ (by omega)]); exact hset_same _ _ _)⟩
      · skip
        refine w_e rfl (ok_makeSlice (sl rfl) (ty rfl) rfl rfl (by omega) (by omega) (by omega) (by omega) (l' := n) (c' := n) (by omega) (by omega) (fun hN24 => ⟨.inr ⟨_, rfl, rfl⟩, ?_⟩))
        have hS := hS.push hN24 (.cells (madeCells #[.bool false] (n * 1)) 4 (0, 0))
        refine w_e rfl (ok_makeSlice (sl rfl) (ty rfl) rfl rfl (by omega) (by omega) (by omega) (by omega) (l' := 0) (c' := 0) (by omega) (by omega) (fun hN20 => ⟨.inr ⟨_, rfl, rfl⟩, ?_⟩))
        have hS := hS.push hN20 (.cells (madeCells #[.int .i64 0] (0 * 1)) 3 (0, 0))
        refine w_p rfl (fun _ _ => ok_build rfl (v := .agg (tcells an n nc bs (N1) (N1 + 1 + 1) (N1 + 1) (.slice none 0 0))) (fun _ => by kernel_rfl) ⟨rfl, rfl, rfl⟩) ?_
        refine w_e rfl (ok_box (v := .agg _) rfl rfl (fun hN26 => ⟨.inr ⟨_, rfl, rfl⟩, ?_⟩))
        have hS := hS.push hN26 (.cells (tcells an n nc bs (N1) (N1 + 1 + 1) (N1 + 1) (.slice none 0 0)) 99 (0, 0))
        refine w_p rfl (fun _ _ => ok_assign (v := .pointer _) rfl ⟨rfl, rfl, rfl⟩) ?_
        refine w_nil ?_
        have hlt : N < N1 := (by first | exact lt_of_free hN16 hg | exact lt_of_free hN20 hg | exact lt_of_free hN24 hg); exact n_then ⟨rfl, _, N1 + 1 + 1 + 1, N1, N1 + 1 + 1, N1 + 1, ⟨rfl, rfl, trivial⟩, hS, (by (repeat rw [hset_ne _ _ (by omega)]); exact g1), fin _ _ _ _ _ (by (repeat rw [hset_ne _ _ (by omega)]); exact hset_same _ _ _) (by (repeat rw [hset_ne _ _ (by omega)]); exact hset_same _ _ _) (by (repeat rw [hset_ne _ _ (by omega)]); exact hset_same _ _ _)⟩
    · skip
      refine w_e rfl (ok_makeSlice (sl rfl) (ty rfl) rfl rfl (by omega) (by omega) (by omega) (by omega) (l' := 0) (c' := 0) (by omega) (by omega) (fun hN20 => ⟨.inr ⟨_, rfl, rfl⟩, ?_⟩))
      have hS := hS.push hN20 (.cells (madeCells #[.int .i64 0] (0 * 1)) 3 (0, 0))
      refine w_cons ?_ (w_cons ?_ (w_none))
      · skip
        refine w_e rfl (ok_makeSlice (sl rfl) (ty rfl) rfl rfl (by omega) (by omega) (by omega) (by omega) (l' := n) (c' := n) (by omega) (by omega) (fun hN16 => ⟨.inr ⟨_, rfl, rfl⟩, ?_⟩))
        have hS := hS.push hN16 (.cells (madeCells #[.int .i64 0] (n * 1)) 3 (0, 0))
        refine w_e rfl (ok_makeSlice (sl rfl) (ty rfl) rfl rfl (by omega) (by omega) (by omega) (by omega) (l' := n) (c' := n) (by omega) (by omega) (fun hN24 => ⟨.inr ⟨_, rfl, rfl⟩, ?_⟩))
        have hS := hS.push hN24 (.cells (madeCells #[.bool false] (n * 1)) 4 (0, 0))
        refine w_p rfl (fun _ _ => ok_build rfl (v := .agg (tcells an n nc bs (N1 + 1) (N1) (N1 + 1 + 1) (.slice none 0 0))) (fun _ => by kernel_rfl) ⟨rfl, rfl, rfl⟩) ?_
        refine w_e rfl (ok_box (v := .agg _) rfl rfl (fun hN26 => ⟨.inr ⟨_, rfl, rfl⟩, ?_⟩))
        have hS := hS.push hN26 (.cells (tcells an n nc bs (N1 + 1) (N1) (N1 + 1 + 1) (.slice none 0 0)) 99 (0, 0))
        refine w_p rfl (fun _ _ => ok_assign (v := .pointer _) rfl ⟨rfl, rfl, rfl⟩) ?_
        refine w_nil ?_
        have hlt : N < N1 := (by first | exact lt_of_free hN16 hg | exact lt_of_free hN20 hg | exact lt_of_free hN24 hg); exact n_then ⟨rfl, _, N1 + 1 + 1 + 1, N1 + 1, N1, N1 + 1 + 1, ⟨rfl, rfl, trivial⟩, hS, (by (repeat rw [hset_ne _ _ (by omega)]); exact g1), fin _ _ _ _ _ (by (repeat rw [hset_ne _ _ (by omega)]); exact hset_same _ _ _) (by (repeat rw [hset_ne _ _ (by omega)]); exact hset_same _ _ _) (by (repeat rw [hset_ne _ _ (by omega)]); exact hset_same _ _ _)⟩
      · skip
        refine w_e rfl (ok_makeSlice (sl rfl) (ty rfl) rfl rfl (by omega) (by omega) (by omega) (by omega) (l' := n) (c' := n) (by omega) (by omega) (fun hN24 => ⟨.inr ⟨_, rfl, rfl⟩, ?_⟩))
        have hS := hS.push hN24 (.cells (madeCells #[.bool false] (n * 1)) 4 (0, 0))
        refine w_e rfl (ok_makeSlice (sl rfl) (ty rfl) rfl rfl (by omega) (by omega) (by omega) (by omega) (l' := n) (c' := n) (by omega) (by omega) (fun hN16 => ⟨.inr ⟨_, rfl, rfl⟩, ?_⟩))
        have hS := hS.push hN16 (.cells (madeCells #[.int .i64 0] (n * 1)) 3 (0, 0))
        refine w_p rfl (fun _ _ => ok_build rfl (v := .agg (tcells an n nc bs (N1 + 1 + 1) (N1) (N1 + 1) (.slice none 0 0))) (fun _ => by kernel_rfl) ⟨rfl, rfl, rfl⟩) ?_
        refine w_e rfl (ok_box (v := .agg _) rfl rfl (fun hN26 => ⟨.inr ⟨_, rfl, rfl⟩, ?_⟩))
        have hS := hS.push hN26 (.cells (tcells an n nc bs (N1 + 1 + 1) (N1) (N1 + 1) (.slice none 0 0)) 99 (0, 0))
        refine w_p rfl (fun _ _ => ok_assign (v := .pointer _) rfl ⟨rfl, rfl, rfl⟩) ?_
        refine w_nil ?_
        have hlt : N < N1 := (by first | exact lt_of_free hN16 hg | exact lt_of_free hN20 hg | exact lt_of_free hN24 hg); exact n_then ⟨rfl, _, N1 + 1 + 1 + 1, N1 + 1 + 1, N1, N1 + 1, ⟨rfl, rfl, trivial⟩, hS, (by (repeat rw [hset_ne _ _ (by omega)]); exact g1), fin _ _ _ _ _ (by (repeat rw [hset_ne _ _ (by omega)]); exact hset_same _ _ _) (by (repeat rw [hset_ne _ _ (by omega)]); exact hset_same _ _ _) (by (repeat rw [hset_ne _ _ (by omega)]); exact hset_same _ _ _)⟩
    · skip
      refine w_e rfl (ok_makeSlice (sl rfl) (ty rfl) rfl rfl (by omega) (by omega) (by omega) (by omega) (l' := n) (c' := n) (by omega) (by omega) (fun hN24 => ⟨.inr ⟨_, rfl, rfl⟩, ?_⟩))
      have hS := hS.push hN24 (.cells (madeCells #[.bool false] (n * 1)) 4 (0, 0))
      refine w_cons ?_ (w_cons ?_ (w_none))
      · skip
        refine w_e rfl (ok_makeSlice (sl rfl) (ty rfl) rfl rfl (by omega) (by omega) (by omega) (by omega) (l' := n) (c' := n) (by omega) (by omega) (fun hN16 => ⟨.inr ⟨_, rfl, rfl⟩, ?_⟩))
        have hS := hS.push hN16 (.cells (madeCells #[.int .i64 0] (n * 1)) 3 (0, 0))
        refine w_e rfl (ok_makeSlice (sl rfl) (ty rfl) rfl rfl (by omega) (by omega) (by omega) (by omega) (l' := 0) (c' := 0) (by omega) (by omega) (fun hN20 => ⟨.inr ⟨_, rfl, rfl⟩, ?_⟩))
        have hS := hS.push hN20 (.cells (madeCells #[.int .i64 0] (0 * 1)) 3 (0, 0))
        refine w_p rfl (fun _ _ => ok_build rfl (v := .agg (tcells an n nc bs (N1 + 1) (N1 + 1 + 1) (N1) (.slice none 0 0))) (fun _ => by kernel_rfl) ⟨rfl, rfl, rfl⟩) ?_
        refine w_e rfl (ok_box (v := .agg _) rfl rfl (fun hN26 => ⟨.inr ⟨_, rfl, rfl⟩, ?_⟩))
        have hS := hS.push hN26 (.cells (tcells an n nc bs (N1 + 1) (N1 + 1 + 1) (N1) (.slice none 0 0)) 99 (0, 0))
        refine w_p rfl (fun _ _ => ok_assign (v := .pointer _) rfl ⟨rfl, rfl, rfl⟩) ?_
        refine w_nil ?_
        have hlt : N < N1 := (by first | exact lt_of_free hN16 hg | exact lt_of_free hN20 hg | exact lt_of_free hN24 hg); exact n_then ⟨rfl, _, N1 + 1 + 1 + 1, N1 + 1, N1 + 1 + 1, N1, ⟨rfl, rfl, trivial⟩, hS, (by (repeat rw [hset_ne _ _ (by omega)]); exact g1), fin _ _ _ _ _ (by (repeat rw [hset_ne _ _ (by omega)]); exact hset_same _ _ _) (by (repeat rw [hset_ne _ _ (by omega)]); exact hset_same _ _ _) (by (repeat rw [hset_ne _ _ (by omega)]); exact hset_same _ _ _)⟩
      · skip
        refine w_e rfl (ok_makeSlice (sl rfl) (ty rfl) rfl rfl (by omega) (by omega) (by omega) (by omega) (l' := 0) (c' := 0) (by omega) (by omega) (fun hN20 => ⟨.inr ⟨_, rfl, rfl⟩, ?_⟩))
        have hS := hS.push hN20 (.cells (madeCells #[.int .i64 0] (0 * 1)) 3 (0, 0))
        refine w_e rfl (ok_makeSlice (sl rfl) (ty rfl) rfl rfl (by omega) (by omega) (by omega) (by omega) (l' := n) (c' := n) (by omega) (by omega) (fun hN16 => ⟨.inr ⟨_, rfl, rfl⟩, ?_⟩))
        have hS := hS.push hN16 (.cells (madeCells #[.int .i64 0] (n * 1)) 3 (0, 0))
        refine w_p rfl (fun _ _ => ok_build rfl (v := .agg (tcells an n nc bs (N1 + 1 + 1) (N1 + 1) (N1) (.slice none 0 0))) (fun _ => by kernel_rfl) ⟨rfl, rfl, rfl⟩) ?_
        refine w_e rfl (ok_box (v := .agg _) rfl rfl (fun hN26 => ⟨.inr ⟨_, rfl, rfl⟩, ?_⟩))
        have hS := hS.push hN26 (.cells (tcells an n nc bs (N1 + 1 + 1) (N1 + 1) (N1) (.slice none 0 0)) 99 (0, 0))
        refine w_p rfl (fun _ _ => ok_assign (v := .pointer _) rfl ⟨rfl, rfl, rfl⟩) ?_
        refine w_nil ?_
        have hlt : N < N1 := (by first | exact lt_of_free hN16 hg | exact lt_of_free hN20 hg | exact lt_of_free hN24 hg); exact n_then ⟨rfl, _, N1 + 1 + 1 + 1, N1 + 1 + 1, N1 + 1, N1, ⟨rfl, rfl, trivial⟩, hS, (by (repeat rw [hset_ne _ _ (by omega)]); exact g1), fin _ _ _ _ _ (by (repeat rw [hset_ne _ _ (by omega)]); exact hset_same _ _ _) (by (repeat rw [hset_ne _ _ (by omega)]); exact hset_same _ _ _) (by (repeat rw [hset_ne _ _ (by omega)]); exact hset_same _ _ _)⟩
  clear hS g1 hg
  rintro E h2 N2 D ⟨rfl, m2, bt, bi, bl, bp, hE, hS, g1, ht⟩
  obtain ⟨E0, rfl⟩ := hE.ex
  obtain ⟨vs, r1, r2, r3⟩ := hG.top
  refine n_then ?_
  refine c_seq ?_
  refine c_seq ?_
  refine c_region (by kernel_rfl) ?_
  refine st_q (ok_fieldAddr (fld rfl) rfl ⟨rfl, rfl, rfl⟩) ?_
  refine st_q (ok_load (ty rfl) rfl (hS.own _ _ g1) (by rfl) ⟨rfl, rfl, rfl⟩) ?_
  refine st_q (ok_len (sl rfl) rfl ⟨rfl, rfl, rfl⟩) ?_
  refine st_q (ok_move (v := .int _ _) rfl ⟨rfl, rfl, rfl⟩) ?_
  refine o_nil ?_
  refine n_then ?_
  refine c_block ?_
  refine c_loop (fun k E h' _ D => D = [] ∧ k ≤ n ∧ Fr E [(1, .pointer (some ⟨N, 0, none⟩)), (3, .pointer (some ⟨bt, 0, none⟩)), (28, .slice (some ⟨bs, 0, none⟩) n n), (29, .int .i64 (n : Int)), (30, .int .i64 ((n - k : Nat) : Int))] ∧ ∃ m, Sep m h h' ∧ m N = some (.cells (gcells an n nc bs) 69 (0, 0)) ∧ TS m an n nc bs bt bi bl bp (.slice none 0 0) [] (fun j => cntTo S (n - k) j)) (k := n) ⟨rfl, Nat.le_refl _, ⟨rfl, rfl, rfl, rfl, by simp [upd], trivial⟩, m2, hS, g1, by rw [Nat.sub_self]; exact ht⟩ ?_
  clear hS g1 ht
  rintro k E h3 N3 D ⟨rfl, hk, hE, m3, hS, g1, ht⟩
  obtain ⟨E1, rfl⟩ := hE.ex
  refine c_seq ?_
  refine c_region (by kernel_rfl) ?_
  refine st_q (ok_lss rfl rfl ⟨rfl, rfl, rfl⟩) ?_
  refine o_nil ?_
  refine n_then ?_
  refine c_seq ?_
  refine c_cond_prop rfl (fun hc => ?_) (fun hc => ?_)
  · skip
    generalize hi : n - k = i at *
    have hin : i < n := by omega
    obtain ⟨ai, ci, hVi, hci, hrow⟩ := (hG.own i hin).row
    have gvi := (r3 i hin).trans (congrArg some hVi)
    have hSi : (S i).length ≤ 100 := Nat.le_trans (nd_len (hSn i hin) (hSl i hin)) hn
    refine c_skip ?_
    refine n_then ?_
    refine c_seq ?_
    refine c_block ?_
    refine c_seq ?_
    refine c_region (by kernel_rfl) ?_
    refine st_q (ok_indexAddr (sl rfl) (ty rfl) rfl rfl (by omega) (by omega) (off := i) (by omega) ⟨rfl, rfl, rfl⟩) ?_
    refine st_q (ok_load (ty rfl) rfl (hS.oth _ _ r1) gvi ⟨rfl, rfl, rfl⟩) ?_
    refine st_q (ok_assign (v := .slice _ _ _) rfl ⟨rfl, rfl, rfl⟩) ?_
    refine o_nil ?_
    refine n_then ?_
    refine c_seq ?_
    refine c_region (by kernel_rfl) ?_
    refine st_q (ok_move (v := .slice _ _ _) rfl ⟨rfl, rfl, rfl⟩) ?_
    refine st_q (ok_len (sl rfl) rfl ⟨rfl, rfl, rfl⟩) ?_
    refine st_q (ok_move (v := .int _ _) rfl ⟨rfl, rfl, rfl⟩) ?_
    refine o_nil ?_
    refine n_then ?_
    refine c_block ?_
    refine c_loop (fun q E h' _ D => D = [] ∧ q ≤ (S i).length ∧ Fr E [(1, .pointer (some ⟨N, 0, none⟩)), (3, .pointer (some ⟨bt, 0, none⟩)), (28, .slice (some ⟨bs, 0, none⟩) n n), (29, .int .i64 (n : Int)), (30, .int .i64 (i : Int)), (34, .slice ai (S i).length ci), (35, .int .i64 ((S i).length : Int)), (36, .int .i64 (((S i).length - q : Nat) : Int))] ∧ ∃ m, Sep m h h' ∧ m N = some (.cells (gcells an n nc bs) 69 (0, 0)) ∧ TS m an n nc bs bt bi bl bp (.slice none 0 0) [] (fun j => cntTo S i j + if j ∈ (S i).take ((S i).length - q) then 1 else 0)) (k := (S i).length) ⟨rfl, Nat.le_refl _, ⟨rfl, rfl, rfl, rfl, rfl, rfl, rfl, by simp [upd], trivial⟩, m3, hS, g1, by simpa using ht⟩ ?_
    clear hS g1 ht
    rintro q E h4 N4 D ⟨rfl, hq, hE, m4, hS, g1, ht⟩
    obtain ⟨E2, rfl⟩ := hE.ex
    refine c_seq ?_
    refine c_region (by kernel_rfl) ?_
    refine st_q (ok_lss rfl rfl ⟨rfl, rfl, rfl⟩) ?_
    refine o_nil ?_
    refine n_then ?_
    refine c_seq ?_
    refine c_cond_prop rfl (fun hc2 => ?_) (fun hc2 => ?_)
    · skip
      generalize hp : (S i).length - q = p at *
      have hpS : p < (S i).length := by omega
      have gp : (S i)[p]? = some ((S i)[p]) := List.getElem?_eq_getElem hpS
      obtain ⟨rb, rcs, rfl, hrb, hrv⟩ := hrow p _ gp
      have hjn : (S i)[p] < n := hSl i hin _ (List.getElem_mem hpS)
      have hnot : (S i)[p] ∉ (S i).take p := by
        intro hm
        obtain ⟨k', hk', he⟩ := List.getElem_of_mem hm
        rw [List.getElem_take] at he
        have hk2 : k' < p := by simp at hk'; omega
        exact List.pairwise_iff_getElem.1 (hSn i hin) k' p (by omega) hpS hk2 he
      have htake : (S i).take (p + 1) = (S i).take p ++ [(S i)[p]] := by rw [List.take_add_one, gp]; rfl
      obtain ⟨ds, d1, d2, d3⟩ := ht.ind
      have hdj := d3 _ hjn
      rw [if_neg hnot, Nat.add_zero] at hdj
      have hcl := cntTo_le S i (S i)[p]
      refine c_skip ?_
      refine n_then ?_
      refine c_seq ?_
      refine c_block ?_
      refine c_seq ?_
      refine c_region (by kernel_rfl) ?_
      refine st_q (ok_indexAddr (sl rfl) (ty rfl) rfl rfl (by omega) (by omega) (off := p) (by omega) ⟨rfl, rfl, rfl⟩) ?_
      refine st_q (ok_load (ty rfl) rfl (hS.oth _ _ hrb) hrv ⟨rfl, rfl, rfl⟩) ?_
      refine st_q (ok_assign (v := .int _ _) rfl ⟨rfl, rfl, rfl⟩) ?_
      refine o_nil ?_
      refine n_then ?_
      generalize hjj : (S i)[p] = j at *
      refine c_region (by kernel_rfl) ?_
      refine st_q (ok_move (v := .pointer _) rfl ⟨rfl, rfl, rfl⟩) ?_
      refine st_q (ok_nilCheck_ptr rfl ⟨rfl, rfl, rfl⟩) ?_
      refine st_q (ok_fieldAddr (fld rfl) rfl ⟨rfl, rfl, rfl⟩) ?_
      refine st_q (ok_load (ty rfl) rfl (hS.own _ _ ht.hp.r) (by rfl) ⟨rfl, rfl, rfl⟩) ?_
      refine st_q (ok_move (v := .int _ _) rfl ⟨rfl, rfl, rfl⟩) ?_
      refine st_q (ok_indexAddr (sl rfl) (ty rfl) rfl rfl (by omega) (by omega) (off := j) (by omega) ⟨rfl, rfl, rfl⟩) ?_
      refine st_q (ok_load (ty rfl) rfl (hS.own _ _ d1) hdj ⟨rfl, rfl, rfl⟩) ?_
      refine st_q (ok_add rfl rfl (by omega) (by omega) ⟨rfl, rfl, rfl⟩) ?_
      refine st_q (ok_indexAddr (sl rfl) (ty rfl) rfl rfl (by omega) (by omega) (off := j) (by omega) ⟨rfl, rfl, rfl⟩) ?_
      refine st0 (ok_store (ty rfl) rfl (v := .int _ _) rfl rfl (hS.own _ _ d1) (by omega) ?_)
      refine o_nil ?_
      refine n_block (n_then ?_)
      refine c_region (by kernel_rfl) ?_
      refine st_q (ok_add rfl rfl (by omega) (by omega) ⟨rfl, rfl, rfl⟩) ?_
      refine st_q (ok_move (v := .int _ _) rfl ⟨rfl, rfl, rfl⟩) ?_
      refine o_nil ?_
      have hp1 : (S i).length - (q - 1) = p + 1 := by omega
      have hne : N ≠ bi := ne_of_ty g1 d1 rfl
      refine n_then ⟨q - 1, by omega, rfl, by omega, ⟨rfl, rfl, rfl, rfl, rfl, rfl, rfl, ?_, trivial⟩, _, hS.set d1 _, (hset_ne _ _ hne).trans g1, ?_⟩
      · rw [hp1]; rfl
      · refine ht.setInd ⟨ds, d1⟩ (by rw [setA_size]; exact d2) ?_
        intro y hy
        rw [hp1, htake]
        by_cases e : y = j
        · subst e
          rw [setA_same _ _ (by omega), if_pos (by simp)]
          rfl
        · rw [setA_ne _ _ (fun x => e x.symm), d3 y hy]
          simp [e]
    · skip
      obtain rfl : q = 0 := by omega
      refine c_exit ?_
      refine x_then (x_then (x_block (n_block (n_then ?_))))
      refine c_region (by kernel_rfl) ?_
      refine st_q (ok_add rfl rfl (by omega) (by omega) ⟨rfl, rfl, rfl⟩) ?_
      refine st_q (ok_move (v := .int _ _) rfl ⟨rfl, rfl, rfl⟩) ?_
      refine o_nil ?_
      have hi1 : n - (k - 1) = i + 1 := by omega
      refine n_then ⟨k - 1, by omega, rfl, by omega, ⟨rfl, rfl, rfl, rfl, ?_, trivial⟩, m4, hS, g1, ?_⟩
      · rw [hi1]; rfl
      · have e : (fun j => cntTo S (n - (k - 1)) j) = (fun j => cntTo S i j + if j ∈ (S i).take ((S i).length - 0) then 1 else 0) := by
          funext j
          rw [hi1, cntTo_succ, Nat.sub_zero, List.take_length]
        rw [e]; exact ht
  · skip
    obtain rfl : k = 0 := by omega
    refine c_exit ?_
    refine x_then (x_then (x_block (n_then ?_)))
    refine c_seq ?_
    refine c_seq ?_
    refine c_region (by kernel_rfl) ?_
    refine st_q (ok_fieldAddr (fld rfl) rfl ⟨rfl, rfl, rfl⟩) ?_
    refine st_q (ok_load (ty rfl) rfl (hS.own _ _ g1) (by rfl) ⟨rfl, rfl, rfl⟩) ?_
    refine st_q (ok_len (sl rfl) rfl ⟨rfl, rfl, rfl⟩) ?_
    refine st_q (ok_move (v := .int _ _) rfl ⟨rfl, rfl, rfl⟩) ?_
    refine o_nil ?_
    refine n_then ?_
    refine c_block ?_
    refine c_loop1 ?_
    refine c_seq ?_
    refine c_region (by kernel_rfl) ?_
    refine st_q (ok_lss_f rfl rfl ((by decide)) ⟨rfl, rfl, rfl⟩) ?_
    refine o_nil ?_
    refine n_then ?_
    refine c_seq ?_
    refine c_cond_false rfl ?_
    refine c_exit ?_
    refine x_then (x_then (x_block (n_then ?_)))
    refine c_seq ?_
    refine c_region (by kernel_rfl) ?_
    refine st_q (ok_move (v := .pointer _) rfl ⟨rfl, rfl, rfl⟩) ?_
    refine st_q (ok_assign (v := .pointer _) rfl ⟨rfl, rfl, rfl⟩) ?_
    refine o_nil ?_
    refine n_then ?_
    refine c_ret ?_
    refine r_leave (leave_tmp rfl rfl ⟨m3, bt, bi, bl, bp, rfl, hS, ?_⟩)
    have e : (fun j => cnt n S [] j) = (fun j => cntTo S (n - 0) j) := by
      funext j; rw [cnt_eq, Nat.sub_zero]
    rw [e]; exact ht
end
end Sx
end Go.Proofs.YbulkcsqkGreat
