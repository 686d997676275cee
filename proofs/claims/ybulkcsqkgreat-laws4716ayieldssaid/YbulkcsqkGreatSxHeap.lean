import Derived.Test.YbulkcsqkGreatSxIface
import Derived.Test.YbulkcsqkGreatSxLeafA
namespace Go.Proofs.YbulkcsqkGreat
namespace Sx
set_option maxRecDepth 10000
variable {w0 : World}

theorem methLen : methOf Ybaz.prog 120 "Len" = some (39, false) := by kernel_rfl
theorem methLess : methOf Ybaz.prog 120 "Less" = some (117, false) := by kernel_rfl
theorem methSwap : methOf Ybaz.prog 120 "Swap" = some (118, false) := by kernel_rfl
theorem methPush : methOf Ybaz.prog 120 "Push" = some (122, true) := by kernel_rfl
theorem methPop : methOf Ybaz.prog 120 "Pop" = some (121, true) := by kernel_rfl
theorem ptr120 : Ybaz.prog.underlying 120 = some (.pointer 97) := by kernel_rfl
theorem u3 : Ybaz.prog.underlying 3 = some (.int .i64) := by kernel_rfl

theorem ok_quoT {P : Program} {r : Option Nat} {E : Env} {h : Hp} {N : Nat} {K : Value → Hp → Nat → Prop} {d : Option Tmp} {ty t t' : TypeId} {p : String} {af : Array Edge} {g : Option (Nat × Bool)} {x y : Operand} {a c : Int} (hx : ev E x = .int .i64 a) (hy : ev E y = .int .i64 c) (h2 : 0 < c) (h1 : -9223372036854775808 ≤ a.tdiv c) (h3 : a.tdiv c ≤ 9223372036854775807) (k : K (.int .i64 (a.tdiv c)) h N) : opOk P w0 r ⟨d, .binOp .quo t x y t', ty, p, af, g⟩ E h N K :=
  ok_val (fun w => by
    have : ¬ c = 0 := by omega
    simp [execOp, hx, hy, eqGuard, binOp, Op.intDiv, this, wrap_i64 h1 h3, go_sem]) k
def swapL (xs : List Nat) (i j : Nat) : List Nat := (xs.set i (xs.getD j 0)).set j (xs.getD i 0)
theorem swapL_perm {xs : List Nat} {i j : Nat} (hi : i < xs.length) (hj : j < xs.length) : (swapL xs i j).Perm xs := by
  have := List.set_set_perm hi hj
  simpa [swapL, List.getD_eq_getElem?_getD, hi, hj] using this
theorem swapL_get {xs : List Nat} {i j k : Nat} (h1 : k ≠ i) (h2 : k ≠ j) : (swapL xs i j)[k]? = xs[k]? := by
  simp only [swapL]
  rw [List.getElem?_set_ne (fun e => h2 e.symm), List.getElem?_set_ne (fun e => h1 e.symm)]

/-- A heap of numbers in a field. -/
structure HP (m : Hp) (br o : Nat) (cs : Array Value) (te : TypeId) (v : Value) (xs : List Nat) : Prop where
  r : m br = some (.cells cs te (0, 0))
  f : cs[o]? = some v
  own : Own m 3 1 v (ints xs)
  te : Nat.beq 3 te = false
/-- What a step on it leaves. -/
structure Kp (m : Hp) (br : Nat) (v : Value) (m' : Hp) (v' : Value) : Prop where
  keep : ∀ c o, m c = some o → c ≠ br → blk v ≠ some c → m' c = some o
  away : ∀ c o, m c = some o → blk v ≠ some c → blk v' ≠ some c
theorem Kp.refl (m : Hp) (br : Nat) (v : Value) : Kp m br v m v := ⟨fun _ _ h _ _ => h, fun _ _ _ h => h⟩
theorem Kp.trans {m m1 m2 : Hp} {br : Nat} {v v1 v2 : Value} (h1 : Kp m br v m1 v1) (h2 : Kp m1 br v1 m2 v2) (hr : ∃ o, m1 br = some o) : Kp m br v m2 v2 := by
  refine ⟨fun c o hc hb hv => h2.keep c o (h1.keep c o hc hb hv) hb (h1.away c o hc hv), fun c o hc hv => ?_⟩
  by_cases e : c = br
  · obtain ⟨o', ho'⟩ := hr
    exact h2.away c o' (by rw [e]; exact ho') (h1.away c o hc hv)
  · exact h2.away c o (h1.keep c o hc e hv) (h1.away c o hc hv)
theorem HP.nbr {m : Hp} {br o : Nat} {cs : Array Value} {te : TypeId} {v : Value} {xs : List Nat} (hp : HP m br o cs te v xs) : blk v ≠ some br := by
  intro e
  obtain ⟨cs', hc⟩ := hp.own.at e
  exact ne_of_ty hc hp.r hp.te rfl

section
variable {h m X : Hp} {N br o i j : Nat} {cs : Array Value} {te : TypeId} {v : Value} {xs : List Nat}

theorem hlen_ok (ho : Own h 3 1 v (ints xs)) : CallsX Ybaz.prog w0 39 #[v] h N (fun u h' N' => u = .int .i64 (xs.length : Int) ∧ h' = h ∧ N' = N) := by
  obtain ⟨ao, cap, rfl, hcap, hrow⟩ := ho.row
  refine calls_of Ybaz.func39 rfl Ybaz.ntmps39 (Nat.le_of_ble_eq_true rfl) ?_
  refine c_seq ?_
  refine c_region (by kernel_rfl) ?_
  refine st_q (ok_assign (v := .int _ _) rfl ⟨rfl, rfl, rfl⟩) ?_
  refine o_nil ?_
  refine n_then (c_seq ?_)
  refine c_region (by kernel_rfl) ?_
  refine st_q (ok_move (v := .slice _ _ _) rfl ⟨rfl, rfl, rfl⟩) ?_
  refine st_q (ok_len (sl rfl) rfl ⟨rfl, rfl, rfl⟩) ?_
  refine st_q (ok_assign (v := .int _ _) rfl ⟨rfl, rfl, rfl⟩) ?_
  refine o_nil ?_
  refine n_then (c_ret ?_)
  exact r_leave (leave_tmp rfl rfl ⟨rfl, rfl, rfl⟩)

theorem less_ok (ho : Own h 3 1 v (ints xs)) {a b : Nat} (hi : xs[i]? = some a) (hj : xs[j]? = some b) : CallsX Ybaz.prog w0 117 #[v, .int .i64 (i : Int), .int .i64 (j : Int)] h N (fun u h' N' => u = .bool (decide ((a : Int) < (b : Int))) ∧ h' = h ∧ N' = N) := by
  obtain ⟨ao, cap, rfl, hcap, hrow⟩ := ho.row
  obtain ⟨bb, cs, rfl, hb, hci⟩ := hrow i a hi
  obtain ⟨b2, cs2, he, hb2, hcj⟩ := hrow j b hj
  cases he
  rw [hb] at hb2; cases hb2
  have li := (List.getElem?_eq_some_iff.1 hi).1
  have lj := (List.getElem?_eq_some_iff.1 hj).1
  refine calls_of Ybaz.func117 rfl Ybaz.ntmps117 (Nat.le_of_ble_eq_true rfl) ?_
  refine c_seq ?_
  refine c_region (by kernel_rfl) ?_
  refine st_q (ok_assign (v := .bool _) rfl ⟨rfl, rfl, rfl⟩) ?_
  refine o_nil ?_
  refine n_then (c_seq ?_)
  refine c_draw mixed [] 10 rfl [((0, 2), [((1, 2), [((2, 2), [((3, 1), [((4, 2), [((5, 2), [((6, 2), [((7, 1), [((8, 2), [((9, 2), ())])])])])])])])])])] (by kernel_rfl) (by kernel_rfl) ?_
  refine w_p rfl (fun _ _ => ok_move (v := .slice _ _ _) rfl ⟨rfl, rfl, rfl⟩) ?_
  refine w_p rfl (fun _ _ => ok_move (v := .int _ _) rfl ⟨rfl, rfl, rfl⟩) ?_
  refine w_p rfl (fun _ _ => ok_indexAddr (sl rfl) (ty rfl) rfl rfl (by omega) (by omega) (off := i) (by omega) ⟨rfl, rfl, rfl⟩) ?_
  refine w_r rfl (fun _ _ hExt => ok_load (ty rfl) rfl (hExt _ _ hb) hci ⟨rfl, rfl, rfl⟩) ?_
  refine w_p rfl (fun _ _ => ok_move (v := .slice _ _ _) rfl ⟨rfl, rfl, rfl⟩) ?_
  refine w_p rfl (fun _ _ => ok_move (v := .int _ _) rfl ⟨rfl, rfl, rfl⟩) ?_
  refine w_p rfl (fun _ _ => ok_indexAddr (sl rfl) (ty rfl) rfl rfl (by omega) (by omega) (off := j) (by omega) ⟨rfl, rfl, rfl⟩) ?_
  refine w_r rfl (fun _ _ hExt => ok_load (ty rfl) rfl (hExt _ _ hb) hcj ⟨rfl, rfl, rfl⟩) ?_
  refine w_p rfl (fun _ _ => ok_lss rfl rfl ⟨rfl, rfl, rfl⟩) ?_
  refine w_p rfl (fun _ _ => ok_assign (v := .bool _) rfl ⟨rfl, rfl, rfl⟩) ?_
  refine w_nil ?_
  refine n_then (c_ret ?_)
  exact r_leave (leave_tmp rfl rfl ⟨rfl, rfl, rfl⟩)

theorem swap_ok (hS : Sep m X h) (ho : Own m 3 1 v (ints xs)) (hi : i < xs.length) (hj : j < xs.length) : CallsX Ybaz.prog w0 118 #[v, .int .i64 (i : Int), .int .i64 (j : Int)] h N (fun u h' N' => u = .tuple #[] ∧ N' = N ∧ ∃ m', Sep m' X h' ∧ Own m' 3 1 v (ints (swapL xs i j)) ∧ ∀ c, blk v ≠ some c → m' c = m c) := by
  rcases ho with ⟨h1, h2⟩ | ⟨b, n, c, cs, rfl, h2, h3, h4, h5, h6⟩
  · have : xs = [] := by simpa [ints] using h2
    subst this; simp at hi
  have hn : n = xs.length := by simpa [ints] using h5.symm
  subst hn
  have get : ∀ k, (hk : k < xs.length) → cs[k]? = some (.int .i64 ((xs.getD k 0 : Nat) : Int)) := by
    intro k hk
    have e : (cs.toList.take (xs.length * 1))[k]? = (ints xs)[k]? := by rw [h6]
    rw [List.getElem?_take, if_pos (by omega)] at e
    rw [← Array.getElem?_toList, e]
    simp [ints, List.getD_eq_getElem?_getD, hk]
  have hb := hS.own _ _ h2
  refine calls_of Ybaz.func118 rfl Ybaz.ntmps118 (Nat.le_of_ble_eq_true rfl) ?_
  refine c_draw mixed [0, 0, 0, 0, 0, 0, 0, 0, 0, 0, 0, 0, 0, 2, 0, 2] 16 rfl [((0, 2), [((1, 2), [((2, 2), [((3, 2), [((4, 2), [((5, 2), [((6, 2), [((7, 1), [((8, 2), [((9, 2), [((10, 2), [((11, 1), [((12, 2), [((13, 0), [((14, 2), [((15, 0), ())])])])])])])])])])])])])])])])] (by kernel_rfl) (by kernel_rfl) ?_
  refine w_p rfl (fun _ _ => ok_move (v := .slice _ _ _) rfl ⟨rfl, rfl, rfl⟩) ?_
  refine w_p rfl (fun _ _ => ok_move (v := .int _ _) rfl ⟨rfl, rfl, rfl⟩) ?_
  refine w_p rfl (fun _ _ => ok_move (v := .slice _ _ _) rfl ⟨rfl, rfl, rfl⟩) ?_
  refine w_p rfl (fun _ _ => ok_move (v := .int _ _) rfl ⟨rfl, rfl, rfl⟩) ?_
  refine w_p rfl (fun _ _ => ok_move (v := .slice _ _ _) rfl ⟨rfl, rfl, rfl⟩) ?_
  refine w_p rfl (fun _ _ => ok_move (v := .int _ _) rfl ⟨rfl, rfl, rfl⟩) ?_
  refine w_p rfl (fun _ _ => ok_indexAddr (sl rfl) (ty rfl) rfl rfl (by omega) (by omega) (off := j) (by omega) ⟨rfl, rfl, rfl⟩) ?_
  refine w_r rfl (fun _ _ hExt => ok_load (ty rfl) rfl (hExt _ _ hb) (get j hj) ⟨rfl, rfl, rfl⟩) ?_
  refine w_p rfl (fun _ _ => ok_move (v := .slice _ _ _) rfl ⟨rfl, rfl, rfl⟩) ?_
  refine w_p rfl (fun _ _ => ok_move (v := .int _ _) rfl ⟨rfl, rfl, rfl⟩) ?_
  refine w_p rfl (fun _ _ => ok_indexAddr (sl rfl) (ty rfl) rfl rfl (by omega) (by omega) (off := i) (by omega) ⟨rfl, rfl, rfl⟩) ?_
  refine w_r rfl (fun _ _ hExt => ok_load (ty rfl) rfl (hExt _ _ hb) (get i hi) ⟨rfl, rfl, rfl⟩) ?_
  refine w_p rfl (fun _ _ => ok_indexAddr (sl rfl) (ty rfl) rfl rfl (by omega) (by omega) (off := i) (by omega) ⟨rfl, rfl, rfl⟩) ?_
  refine w_e0 rfl (ok_store (ty rfl) rfl (v := .int _ _) rfl rfl hb (by omega) ⟨trivial, ?_⟩)
  refine w_p rfl (fun _ _ => ok_indexAddr (sl rfl) (ty rfl) rfl rfl (by omega) (by omega) (off := j) (by omega) ⟨rfl, rfl, rfl⟩) ?_
  refine w_e0 rfl (ok_store (ty rfl) rfl (v := .int _ _) rfl rfl (hset_same _ _ _) (by rw [setA_size]; omega) ⟨trivial, ?_⟩)
  refine w_nil ?_
  refine n_leave (leave_none rfl ⟨rfl, rfl, _, (hS.set h2 _).set (hset_same _ _ _) _, ?_, fun c' hc' => ?_⟩)
  · refine .inr ⟨b, xs.length, c, _, rfl, hset_same _ _ _, by rw [setA_size, setA_size]; exact h3, h4, ?_, ?_⟩
    · simp [ints, swapL]
    · simp only [setA, ints, swapL, List.map_set]
      rw [List.take_set, List.take_set, h6]
      simp [ints]
  · have hne : c' ≠ b := fun e => hc' (by rw [e]; rfl)
    rw [hset_ne _ _ hne, hset_ne _ _ hne]

/-- The heap's rows in the field, seen through an interface value. -/
def hif (br o : Nat) : Value := .iface 120 (.pointer (some ⟨br, o, none⟩))

theorem up_ok (hS : Sep m X h) (hp : HP m br o cs te v xs) (hj : j < xs.length) (hl : xs.length ≤ 1000) :
    CallsX Ybaz.prog w0 71 #[hif br o, .int .i64 (j : Int)] h N (fun u h' _ => u = .tuple #[] ∧ ∃ m' ys, Sep m' X h' ∧ ys.Perm xs ∧ Own m' 3 1 v (ints ys) ∧ ∀ c, blk v ≠ some c → m' c = m c) := by
  refine calls_of Ybaz.func71 rfl Ybaz.ntmps71 (Nat.le_of_ble_eq_true rfl) ?_
  refine c_block ?_
  refine c_loop (fun k E h' _ D => D = [] ∧ k < xs.length ∧ Fr E [(0, hif br o), (1, .int .i64 (k : Int))] ∧ ∃ m' ys, Sep m' X h' ∧ ys.Perm xs ∧ Own m' 3 1 v (ints ys) ∧ ∀ c, blk v ≠ some c → m' c = m c) (k := j) ⟨rfl, hj, ⟨rfl, rfl, trivial⟩, m, xs, hS, List.Perm.refl _, hp.own, fun _ _ => rfl⟩ ?_
  rintro k E h1 N1 D ⟨rfl, hk, hE, m1, ys, hS1, hys, hown, hkeep⟩
  obtain ⟨E0, rfl⟩ := hE.ex
  have hr1 : h1 br = some (.cells cs te (0, 0)) := hS1.own _ _ ((hkeep br hp.nbr).trans hp.r)
  have hylen := hys.length_eq
  obtain ⟨i, hi⟩ : ∃ i : Nat, ((k : Int) - 1).tdiv 2 = (i : Int) ∧ i ≤ k ∧ (k ≠ 0 → i < k) := by
    by_cases h0 : k = 0
    · subst h0; exact ⟨0, by decide, by omega, by omega⟩
    · refine ⟨(k - 1) / 2, ?_, by omega, by omega⟩
      rw [Int.tdiv_eq_ediv_of_nonneg (by omega)]
      omega
  obtain ⟨hi, hik, hik2⟩ := hi
  have gi : ys[i]? = some (ys[i]'(by omega)) := List.getElem?_eq_getElem (by omega)
  have gk : ys[k]? = some (ys[k]'(by omega)) := List.getElem?_eq_getElem (by omega)
  refine c_block ?_
  refine c_seq ?_
  refine c_region (by kernel_rfl) ?_
  refine st_q (ok_move (v := .int _ _) rfl ⟨rfl, rfl, rfl⟩) ?_
  refine st_q (ok_sub rfl rfl (by omega) (by omega) ⟨rfl, rfl, rfl⟩) ?_
  refine st_q (v := .int .i64 (i : Int)) (ok_quoT rfl rfl (by omega) (by rw [hi]; omega) (by rw [hi]; omega) ⟨by rw [hi], rfl, rfl⟩) ?_
  refine st_q (ok_assign (v := .int _ _) rfl ⟨rfl, rfl, rfl⟩) ?_
  refine o_nil ?_
  refine n_then ?_
  refine c_seq ?_
  refine c_seq ?_
  by_cases hik3 : i = k
  · subst hik3
    refine c_region (by kernel_rfl) ?_
    refine st_q (ok_move (v := .int _ _) rfl ⟨rfl, rfl, rfl⟩) ?_
    refine st_q (ok_move (v := .int _ _) rfl ⟨rfl, rfl, rfl⟩) ?_
    refine st_q (ok_eql_t rfl rfl (rfl) ⟨rfl, rfl, rfl⟩) ?_
    refine st_q (ok_move (v := .bool _) rfl ⟨rfl, rfl, rfl⟩) ?_
    refine st_s rfl ?_
    refine st_s rfl ?_
    refine st_s rfl ?_
    refine st_s rfl ?_
    refine st_s rfl ?_
    refine st_q (ok_pick_true rfl rfl ⟨rfl, rfl, rfl⟩) ?_
    refine o_nil ?_
    refine n_then ?_
    refine c_cond_true rfl ?_
    refine c_exit ?_
    refine x_then (x_block_ne (by decide) (x_then (x_block ?_)))
    exact n_leave (leave_none rfl ⟨rfl, m1, ys, hS1, hys, hown, hkeep⟩)
  · skip
    refine c_region (by kernel_rfl) ?_
    refine st_q (ok_move (v := .int _ _) rfl ⟨rfl, rfl, rfl⟩) ?_
    refine st_q (ok_move (v := .int _ _) rfl ⟨rfl, rfl, rfl⟩) ?_
    refine st_q (ok_eql_f rfl rfl ((by omega)) ⟨rfl, rfl, rfl⟩) ?_
    refine st_q (ok_move (v := .bool _) rfl ⟨rfl, rfl, rfl⟩) ?_
    refine st_g rfl (ok_move (v := _) rfl ⟨rfl, rfl, rfl⟩) ?_
    refine st_g rfl (ok_move (v := .int _ _) rfl ⟨rfl, rfl, rfl⟩) ?_
    refine st_g rfl (ok_move (v := .int _ _) rfl ⟨rfl, rfl, rfl⟩) ?_
    refine st_g rfl (ok_invoke_val rfl methLess ptr120 (ty rfl) hr1 hp.f ent117 (less_ok (hown.ext hS1.own) gk gi) rfl (fun _ _ _ hR => hR)) ?_
    refine st_g rfl (ok_not rfl ⟨rfl, rfl, rfl⟩) ?_
    refine st_q (ok_pick_false rfl rfl ⟨rfl, rfl, rfl⟩) ?_
    refine o_nil ?_
    refine n_then ?_
    refine c_cond rfl (fun hc => ?_) (fun hc => ?_)
    · refine c_exit ?_
      refine x_then (x_block_ne (by decide) (x_then (x_block ?_)))
      exact n_leave (leave_none rfl ⟨rfl, m1, ys, hS1, hys, hown, hkeep⟩)
    · skip
      refine c_skip ?_
      refine n_then ?_
      refine c_seq ?_
      refine c_region (by kernel_rfl) ?_
      refine st_q (ok_move (v := _) rfl ⟨rfl, rfl, rfl⟩) ?_
      refine st_q (ok_move (v := .int _ _) rfl ⟨rfl, rfl, rfl⟩) ?_
      refine st_q (ok_move (v := .int _ _) rfl ⟨rfl, rfl, rfl⟩) ?_
      refine st (ok_invoke_val rfl methSwap ptr120 (ty rfl) hr1 hp.f ent118 (swap_ok (i := i) (j := k) hS1 hown (by omega) (by omega)) rfl ?_); rintro _ h2 N2 ⟨rfl, rfl, m2, hS2, hown2, hkeep2⟩; refine o_nil ?_
      refine n_then ?_
      refine c_region (by kernel_rfl) ?_
      refine st_q (ok_move (v := .int _ _) rfl ⟨rfl, rfl, rfl⟩) ?_
      refine st_q (ok_assign (v := .int _ _) rfl ⟨rfl, rfl, rfl⟩) ?_
      refine o_nil ?_
      refine n_block (n_then ⟨i, by omega, rfl, by omega, ⟨rfl, rfl, trivial⟩, m2, _, hS2, (swapL_perm (by omega) (by omega)).trans hys, hown2, fun c hc => (hkeep2 c hc).trans (hkeep c hc)⟩)

theorem down_ok {n : Nat} (hS : Sep m X h) (hp : HP m br o cs te v xs) (hn : n ≤ xs.length) (hl : xs.length ≤ 1000) :
    CallsX Ybaz.prog w0 72 #[hif br o, .int .i64 0, .int .i64 (n : Int)] h N (fun _ h' _ => ∃ m' ys, Sep m' X h' ∧ ys.Perm xs ∧ Own m' 3 1 v (ints ys) ∧ (∀ c, blk v ≠ some c → m' c = m c) ∧ ∀ k, n ≤ k → ys[k]? = xs[k]?) := by
  refine calls_of Ybaz.func72 rfl Ybaz.ntmps72 (Nat.le_of_ble_eq_true rfl) ?_
  refine c_seq ?_
  refine c_region (by kernel_rfl) ?_
  refine st_q (ok_assign (v := .bool _) rfl ⟨rfl, rfl, rfl⟩) ?_
  refine o_nil ?_
  refine n_then ?_
  refine c_seq ?_
  refine c_region (by kernel_rfl) ?_
  refine st_q (ok_move (v := .int _ _) rfl ⟨rfl, rfl, rfl⟩) ?_
  refine st_q (ok_assign (v := .int _ _) rfl ⟨rfl, rfl, rfl⟩) ?_
  refine o_nil ?_
  refine n_then ?_
  refine c_seq ?_
  refine c_block ?_
  refine c_loop (fun k E h' _ D => D = [] ∧ k ≤ n ∧ (k < n ∨ k = n) ∧ Fr E [(0, hif br o), (1, .int .i64 0), (2, .int .i64 (n : Int)), (7, .int .i64 ((n - k : Nat) : Int))] ∧ ∃ m' ys, Sep m' X h' ∧ ys.Perm xs ∧ Own m' 3 1 v (ints ys) ∧ (∀ c, blk v ≠ some c → m' c = m c) ∧ ∀ k, n ≤ k → ys[k]? = xs[k]?) (k := n) ⟨rfl, Nat.le_refl _, .inr rfl, ⟨rfl, rfl, rfl, by simp [upd], trivial⟩, m, xs, hS, List.Perm.refl _, hp.own, fun _ _ => rfl, fun _ _ => rfl⟩ ?_
  rintro k E h1 N1 D ⟨rfl, hk, _, hE, m1, ys, hS1, hys, hown, hkeep, hback⟩
  obtain ⟨E0, rfl⟩ := hE.ex
  have hr1 : h1 br = some (.cells cs te (0, 0)) := hS1.own _ _ ((hkeep br hp.nbr).trans hp.r)
  have hylen := hys.length_eq
  generalize hi : n - k = i at *
  refine c_block ?_
  refine c_seq ?_
  refine c_region (by kernel_rfl) ?_
  refine st_q (ok_move (v := .int _ _) rfl ⟨rfl, rfl, rfl⟩) ?_
  refine st_q (ok_mul rfl rfl (by omega) (by omega) ⟨rfl, rfl, rfl⟩) ?_
  refine st_q (ok_add rfl rfl (by omega) (by omega) ⟨rfl, rfl, rfl⟩) ?_
  refine st_q (ok_assign (v := .int _ _) rfl ⟨rfl, rfl, rfl⟩) ?_
  refine o_nil ?_
  refine n_then ?_
  refine c_seq ?_
  refine c_seq ?_
  by_cases hge : n ≤ 2 * i + 1
  · skip
    refine c_region (by kernel_rfl) ?_
    refine st_q (ok_move (v := .int _ _) rfl ⟨rfl, rfl, rfl⟩) ?_
    refine st_q (ok_move (v := .int _ _) rfl ⟨rfl, rfl, rfl⟩) ?_
    refine st_q (ok_geq_t rfl rfl ((by omega)) ⟨rfl, rfl, rfl⟩) ?_
    refine st_q (ok_move (v := .bool _) rfl ⟨rfl, rfl, rfl⟩) ?_
    refine st_s rfl ?_
    refine st_s rfl ?_
    refine st_q (ok_pick_true rfl rfl ⟨rfl, rfl, rfl⟩) ?_
    refine o_nil ?_
    refine n_then ?_
    refine c_cond_true rfl ?_
    refine c_exit ?_
    refine x_then (x_block_ne (by decide) (x_then (x_block (n_then ?_))))
    refine c_seq ?_
    refine c_region (by kernel_rfl) ?_
    refine st_q (ok_move (v := .int _ _) rfl ⟨rfl, rfl, rfl⟩) ?_
    refine st_q (ok_move (v := .int _ _) rfl ⟨rfl, rfl, rfl⟩) ?_
    refine st_q (ok_gtr rfl rfl ⟨rfl, rfl, rfl⟩) ?_
    refine st_q (ok_assign (v := .bool _) rfl ⟨rfl, rfl, rfl⟩) ?_
    refine o_nil ?_
    refine n_then ?_
    refine c_ret ?_
    exact r_leave (leave_tmp rfl rfl ⟨m1, ys, hS1, hys, hown, hkeep, hback⟩)
  · skip
    have gi : ys[i]? = some (ys[i]'(by omega)) := List.getElem?_eq_getElem (by omega)
    have gj : ys[2 * i + 1]? = some (ys[2 * i + 1]'(by omega)) := List.getElem?_eq_getElem (by omega)
    refine c_region (by kernel_rfl) ?_
    refine st_q (ok_move (v := .int _ _) rfl ⟨rfl, rfl, rfl⟩) ?_
    refine st_q (ok_move (v := .int _ _) rfl ⟨rfl, rfl, rfl⟩) ?_
    refine st_q (ok_geq_f rfl rfl ((by omega)) ⟨rfl, rfl, rfl⟩) ?_
    refine st_q (ok_move (v := .bool _) rfl ⟨rfl, rfl, rfl⟩) ?_
    refine st_g rfl (ok_move (v := .int _ _) rfl ⟨rfl, rfl, rfl⟩) ?_
    refine st_g rfl (ok_lss_f rfl rfl ((by omega)) ⟨rfl, rfl, rfl⟩) ?_
    refine st_q (ok_pick_false rfl rfl ⟨rfl, rfl, rfl⟩) ?_
    refine o_nil ?_
    refine n_then ?_
    refine c_cond_false rfl ?_
    refine c_skip ?_
    refine n_then ?_
    refine c_seq ?_
    refine c_region (by kernel_rfl) ?_
    refine st_q (ok_move (v := .int _ _) rfl ⟨rfl, rfl, rfl⟩) ?_
    refine st_q (ok_assign (v := .int _ _) rfl ⟨rfl, rfl, rfl⟩) ?_
    refine o_nil ?_
    refine n_then ?_
    refine c_seq ?_
    refine c_cut (fun E h' N' D => D = [] ∧ h' = h1 ∧ N' = N1 ∧ ∃ j, i < j ∧ j < n ∧ Fr E [(0, hif br o), (1, .int .i64 0), (2, .int .i64 (n : Int)), (7, .int .i64 (i : Int)), (9, .int .i64 (j : Int))]) ?_ ?_
    · refine c_seq ?_
      refine c_region (by kernel_rfl) ?_
      refine st_q (ok_move (v := .int _ _) rfl ⟨rfl, rfl, rfl⟩) ?_
      refine st_q (ok_add rfl rfl (by omega) (by omega) ⟨rfl, rfl, rfl⟩) ?_
      refine st_q (ok_assign (v := .int _ _) rfl ⟨rfl, rfl, rfl⟩) ?_
      refine o_nil ?_
      refine n_then ?_
      refine c_seq ?_
      by_cases h2 : 2 * i + 1 + 1 < n
      · skip
        have gj2 : ys[2 * i + 1 + 1]? = some (ys[2 * i + 1 + 1]'(by omega)) := List.getElem?_eq_getElem (by omega)
        refine c_region (by kernel_rfl) ?_
        refine st_q (ok_move (v := .int _ _) rfl ⟨rfl, rfl, rfl⟩) ?_
        refine st_q (ok_move (v := .int _ _) rfl ⟨rfl, rfl, rfl⟩) ?_
        refine st_q (ok_lss_t rfl rfl ((by omega)) ⟨rfl, rfl, rfl⟩) ?_
        refine st_q (ok_move (v := .bool _) rfl ⟨rfl, rfl, rfl⟩) ?_
        refine st_g rfl (ok_move (v := _) rfl ⟨rfl, rfl, rfl⟩) ?_
        refine st_g rfl (ok_move (v := .int _ _) rfl ⟨rfl, rfl, rfl⟩) ?_
        refine st_g rfl (ok_move (v := .int _ _) rfl ⟨rfl, rfl, rfl⟩) ?_
        refine st_g rfl (ok_invoke_val rfl methLess ptr120 (ty rfl) hr1 hp.f ent117 (less_ok (i := 2 * i + 1 + 1) (j := 2 * i + 1) (hown.ext hS1.own) gj2 gj) rfl (fun _ _ _ hR => hR)) ?_
        refine st_q (ok_pick_true rfl rfl ⟨rfl, rfl, rfl⟩) ?_
        refine o_nil ?_
        refine n_then ?_
        refine c_cond rfl (fun hc => ?_) (fun hc => ?_)
        · skip
          refine c_region (by kernel_rfl) ?_
          refine st_q (ok_move (v := .int _ _) rfl ⟨rfl, rfl, rfl⟩) ?_
          refine st_q (ok_assign (v := .int _ _) rfl ⟨rfl, rfl, rfl⟩) ?_
          refine o_nil ?_
          refine n_then ⟨rfl, rfl, rfl, 2 * i + 1 + 1, by omega, by omega, rfl, rfl, rfl, rfl, ?_, trivial⟩
          rfl
        · refine c_skip (n_then ⟨rfl, rfl, rfl, 2 * i + 1, by omega, by omega, rfl, rfl, rfl, rfl, ?_, trivial⟩)
          rfl
      · skip
        refine c_region (by kernel_rfl) ?_
        refine st_q (ok_move (v := .int _ _) rfl ⟨rfl, rfl, rfl⟩) ?_
        refine st_q (ok_move (v := .int _ _) rfl ⟨rfl, rfl, rfl⟩) ?_
        refine st_q (ok_lss_f rfl rfl ((by omega)) ⟨rfl, rfl, rfl⟩) ?_
        refine st_q (ok_move (v := .bool _) rfl ⟨rfl, rfl, rfl⟩) ?_
        refine st_s rfl ?_
        refine st_s rfl ?_
        refine st_s rfl ?_
        refine st_s rfl ?_
        refine st_q (ok_pick_false rfl rfl ⟨rfl, rfl, rfl⟩) ?_
        refine o_nil ?_
        refine n_then ?_
        refine c_cond_false rfl ?_
        refine c_skip (n_then ⟨rfl, rfl, rfl, 2 * i + 1, by omega, by omega, rfl, rfl, rfl, rfl, ?_, trivial⟩)
        rfl
    rintro E h2 N2 D ⟨rfl, rfl, rfl, j, hij, hjn, hE⟩
    obtain ⟨E1, rfl⟩ := hE.ex
    have gj : ys[j]? = some (ys[j]'(by omega)) := List.getElem?_eq_getElem (by omega)
    refine n_then ?_
    refine c_seq ?_
    refine c_seq ?_
    refine c_region (by kernel_rfl) ?_
    refine st_q (ok_move (v := _) rfl ⟨rfl, rfl, rfl⟩) ?_
    refine st_q (ok_move (v := .int _ _) rfl ⟨rfl, rfl, rfl⟩) ?_
    refine st_q (ok_move (v := .int _ _) rfl ⟨rfl, rfl, rfl⟩) ?_
    refine st_q (ok_invoke_val rfl methLess ptr120 (ty rfl) hr1 hp.f ent117 (less_ok (i := j) (j := i) (hown.ext hS1.own) gj gi) rfl (fun _ _ _ hR => hR)) ?_
    refine st_q (ok_not rfl ⟨rfl, rfl, rfl⟩) ?_
    refine o_nil ?_
    refine n_then ?_
    refine c_cond rfl (fun hc => ?_) (fun hc => ?_)
    · skip
      refine c_exit ?_
      refine x_then (x_block_ne (by decide) (x_then (x_block (n_then ?_))))
      refine c_seq ?_
      refine c_region (by kernel_rfl) ?_
      refine st_q (ok_move (v := .int _ _) rfl ⟨rfl, rfl, rfl⟩) ?_
      refine st_q (ok_move (v := .int _ _) rfl ⟨rfl, rfl, rfl⟩) ?_
      refine st_q (ok_gtr rfl rfl ⟨rfl, rfl, rfl⟩) ?_
      refine st_q (ok_assign (v := .bool _) rfl ⟨rfl, rfl, rfl⟩) ?_
      refine o_nil ?_
      refine n_then ?_
      refine c_ret ?_
      exact r_leave (leave_tmp rfl rfl ⟨m1, ys, hS1, hys, hown, hkeep, hback⟩)
    · skip
      refine c_skip ?_
      refine n_then ?_
      refine c_seq ?_
      refine c_region (by kernel_rfl) ?_
      refine st_q (ok_move (v := _) rfl ⟨rfl, rfl, rfl⟩) ?_
      refine st_q (ok_move (v := .int _ _) rfl ⟨rfl, rfl, rfl⟩) ?_
      refine st_q (ok_move (v := .int _ _) rfl ⟨rfl, rfl, rfl⟩) ?_
      refine st (ok_invoke_val rfl methSwap ptr120 (ty rfl) hr1 hp.f ent118 (swap_ok (i := i) (j := j) hS1 hown (by omega) (by omega)) rfl ?_); rintro _ h3 N3 ⟨rfl, rfl, m2, hS2, hown2, hkeep2⟩; refine o_nil ?_
      refine n_then ?_
      refine c_region (by kernel_rfl) ?_
      refine st_q (ok_move (v := .int _ _) rfl ⟨rfl, rfl, rfl⟩) ?_
      refine st_q (ok_assign (v := .int _ _) rfl ⟨rfl, rfl, rfl⟩) ?_
      refine o_nil ?_
      refine n_block (n_then ⟨n - j, by omega, rfl, by omega, by omega, ⟨rfl, rfl, rfl, ?_, trivial⟩, m2, _, hS2, (swapL_perm (by omega) (by omega)).trans hys, hown2, fun c hc => (hkeep2 c hc).trans (hkeep c hc), fun q hq => (swapL_get (by omega) (by omega)).trans (hback q hq)⟩)
      show Value.int .i64 (j : Int) = _
      congr 1; omega
end
end Sx
end Go.Proofs.YbulkcsqkGreat
