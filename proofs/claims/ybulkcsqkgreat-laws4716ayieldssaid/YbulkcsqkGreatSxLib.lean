import Derived.Test.YbulkcsqkGreatSxSort
import Derived.Shelf.Slices.Reverse
import Derived.Shelf.Slices.Turned
import Derived.Shelf.Spec.SlicesGrow
import Derived.Shelf.Bits.Mul64
import Derived.Ground.Names8Prog
import Derived.Test.YbulkcsqkGreatSxPred
namespace Go.Proofs.YbulkcsqkGreat
open Go.Shelf
shelf_lay Lays.n112 Nm 112 at Ybaz as Ybaz.revL
shelf_lay Lays.n114 Nm 114 at Ybaz as Ybaz.minL
shelf_lay Lays.n108 Nm 108 at Ybaz as Ybaz.idxL
shelf_lay_g Lays8.n4 Nm8 4 at Ybaz 74 as Ybaz.growL
shelf_lay Lays.n212 Nm 212 at Ybaz as Ybaz.mulL
namespace Sx
open Go.Shelf Go.RowKit Go.Lib Go.Sort
set_option maxRecDepth 10000
variable {w0 : World}

theorem reverse_ok {m X h : Hp} {N : Nat} {v : Value} {xs : List Nat} (hS : Sep m X h) (ho : Own m 3 1 v (ints xs)) (hl : xs.length ≤ 1000) :
    CallsX Ybaz.prog w0 34 #[v] h N (fun u h' _ => u = .tuple #[] ∧ ∃ m', Sep m' X h' ∧ Own m' 3 1 v (ints xs.reverse) ∧ ∀ c, blk v ≠ some c → m' c = m c) := by
  intro w hw
  have hown := ho
  rcases ho with ⟨rfl, h2⟩ | ⟨b, n, c, cs, rfl, h2, h3, h4, h5, h6⟩
  · have hc := Any.slices_Reverse_int_empty Ybaz.revL none 0 w
    change Calls Ybaz.prog 34 _ _ _ at hc
    refine hc.mono ?_
    rintro e w' ⟨rfl, rfl⟩
    have hx : xs = [] := by simpa [ints] using h2
    subst hx
    exact ⟨_, h, N, rfl, hw, rfl, m, hS, hown, fun _ _ => rfl⟩
  have hn : n = xs.length := by simpa [ints] using h5.symm
  subst hn
  have hb := hS.own _ _ h2
  have hH : Holds (Value.int .i64) w b 0 (xs.map (fun (x : Nat) => (x : Int))).toArray := by
    intro j hj
    have hj' : j < xs.length := by simpa using hj
    refine ⟨?_, hw.thaw hb⟩
    rw [hw.cell hb, Nat.zero_add, row_of h6 j hj']
    rw [getElem!_pos _ j hj]
    simp
  have hc := Any.slices_Reverse_int Ybaz.revL b 0 c (xs.map (fun (x : Nat) => (x : Int))) w hH (by simp; omega)
  change Calls Ybaz.prog 34 _ _ _ at hc
  rw [List.length_map] at hc
  refine hc.mono ?_
  rintro e w' ⟨rfl, q, hw'⟩
  obtain ⟨hA, hB, hC⟩ := row_bridge (os := #[]) hw hb (hw'.trans (grow_empty _).symm)
  refine ⟨_, _, _, rfl, hA, rfl, _, hS.turned h2 hB hC, ?_, fun c' hc' => ?_⟩
  · refine .inr ⟨b, xs.length, c, _, rfl, hset_same _ _ _, by rw [putCells_size]; exact h3, h4, by simp [ints], ?_⟩
    have := putCells_take (Value.int .i64) (xs.map (fun (x : Nat) => (x : Int))).reverse.toArray cs (by simp; omega)
    simp only [List.size_toArray, List.length_reverse, List.length_map] at this
    rw [Nat.mul_one, this]
    simp [ints]
  · exact hset_ne _ _ (fun e => hc' (by rw [e]; rfl))

theorem foldl_min_mem : ∀ (l : List Int) (a : Int), l.foldl min a = a ∨ l.foldl min a ∈ l := by
  intro l
  induction l with
  | nil => intro a; exact .inl rfl
  | cons x l ih =>
    intro a
    simp only [List.foldl_cons]
    rcases ih (min a x) with h | h
    · rw [h]
      rcases Int.le_total a x with h1 | h1
      · exact .inl (Int.min_eq_left h1)
      · exact .inr (by rw [Int.min_eq_right h1]; simp)
    · exact .inr (by simp [h])
theorem minOf_mem {l : List Int} (h : l ≠ []) : Lib.minOf l ∈ l := by
  cases l with
  | nil => exact absurd rfl h
  | cons a l =>
    unfold Lib.minOf
    rcases foldl_min_mem (a :: l) a with h1 | h1
    · simp only [List.headD_cons]; rw [h1]; simp
    · exact h1
theorem min_ok {h : Hp} {N b c : Nat} {cs : Array Value} {fz : Nat × Nat} {xs : List Nat} (hb : h b = some (.cells cs 3 fz)) (h6 : cs.toList.take (xs.length * 1) = ints xs) (hne : xs ≠ []) (hl : xs.length ≤ 1000) :
    CallsX Ybaz.prog w0 48 #[.slice (some ⟨b, 0, none⟩) xs.length c] h N (fun u h' N' => (∃ x, x ∈ xs ∧ u = .int .i64 ((x : Nat) : Int)) ∧ h' = h ∧ N' = N) := by
  intro w hw
  have hpos : 0 < xs.length := List.length_pos_iff.2 hne
  have hc := Any.slices_Min_int Ybaz.minL b 0 xs.length c (xs.map (fun (x : Nat) => (x : Int))) w hpos (by simp) (by omega) (fun j hj => by
    have hj' : j < xs.length := by simpa using hj
    rw [hw.cell hb, Nat.zero_add, row_of h6 j hj']
    simp [List.getD_eq_getElem?_getD, hj'])
  change Calls Ybaz.prog 48 _ _ _ at hc
  refine hc.mono ?_
  rintro e w' ⟨rfl, rfl⟩
  rw [List.take_of_length_le (by simp)]
  have hm := minOf_mem (l := xs.map (fun (x : Nat) => (x : Int))) (by simpa using hne)
  obtain ⟨x, hx, he⟩ := List.mem_map.1 hm
  exact ⟨_, h, N, rfl, hw, ⟨x, hx, by rw [he]⟩, rfl, rfl⟩
theorem idxFrom_lt {x : Int} : ∀ (l : List Int) (i : Nat), x ∈ l → ∃ k : Nat, Lib.idxFrom l x i = (i + k : Int) ∧ k < l.length := by
  intro l
  induction l with
  | nil => intro i h; cases h
  | cons a l ih =>
    intro i h
    unfold Lib.idxFrom
    by_cases e : a = x
    · exact ⟨0, by simp [e], by simp⟩
    · have h' : x ∈ l := by
        rcases List.mem_cons.1 h with h1 | h1
        · exact absurd h1.symm e
        · exact h1
      obtain ⟨k, hk, hk2⟩ := ih (i + 1) h'
      refine ⟨k + 1, ?_, by simp; omega⟩
      simp only [e, if_false]
      rw [hk]; omega
theorem index_ok {h : Hp} {N b c x : Nat} {cs : Array Value} {fz : Nat × Nat} {xs : List Nat} (hb : h b = some (.cells cs 3 fz)) (h6 : cs.toList.take (xs.length * 1) = ints xs) (hx : x ∈ xs) (hl : xs.length ≤ 1000) :
    CallsX Ybaz.prog w0 47 #[.slice (some ⟨b, 0, none⟩) xs.length c, .int .i64 (x : Int)] h N (fun u h' N' => (∃ k, k < xs.length ∧ u = .int .i64 ((k : Nat) : Int)) ∧ h' = h ∧ N' = N) := by
  intro w hw
  have hc := Any.slices_Index_int Ybaz.idxL b 0 xs.length c (xs.map (fun (x : Nat) => (x : Int))) (x : Int) w (by simp) (by omega) (fun j hj => by
    have hj' : j < xs.length := by simpa using hj
    rw [hw.cell hb, Nat.zero_add, row_of h6 j hj']
    simp [List.getD_eq_getElem?_getD, hj'])
  change Calls Ybaz.prog 47 _ _ _ at hc
  refine hc.mono ?_
  rintro e w' ⟨rfl, rfl⟩
  rw [List.take_of_length_le (by simp)]
  obtain ⟨k, hk, hk2⟩ := idxFrom_lt (x := (x : Int)) (xs.map (fun (x : Nat) => (x : Int))) 0 (List.mem_map.2 ⟨x, hx, rfl⟩)
  refine ⟨_, h, N, rfl, hw, ⟨k, by simpa using hk2, ?_⟩, rfl, rfl⟩
  show Value.int .i64 (Lib.idxFrom _ _ 0) = _
  have : Lib.idxFrom (xs.map (fun (x : Nat) => (x : Int))) (x : Int) 0 = (k : Int) := by
    have h0 := hk
    rw [show ((0 : Nat) : Int) + (k : Int) = (k : Int) from by omega] at h0
    exact h0
  rw [this]
theorem grow_ok {h : Hp} {N n : Nat} (hn : 0 < n) (hl : n ≤ 1000) :
    CallsX Ybaz.prog w0 74 #[.slice none 0 0, .int .i64 (n : Int)] h N (fun u h' N' => ∃ c cs, u = .slice (some ⟨N, 0, none⟩) 0 c ∧ h' = hset h N (.cells cs 3 (0, 0)) ∧ N' = N + 1 ∧ cs.size = c ∧ n ≤ c ∧ ∀ b, N ≤ b → h b = none) := by
  intro w hw
  obtain ⟨i, hi, hsz, hby, hzz⟩ := (ty rfl : Ty Ybaz.prog 3 false 1 8 (.int .i64 0)).info
  have hc := Any8.slices_Grow_grow Ybaz.growL i (.int .i64 0) hi hzz (by omega) none 0 0 n [] w (Nat.le_refl _) (by omega) (by rw [hby]; omega) (by omega) (by simp) (fun _ => rfl) (fun a e => by cases e)
  change Calls Ybaz.prog 74 _ _ _ at hc
  refine hc.mono ?_
  rintro e w' ⟨rfl, rfl⟩
  have hcap : ∀ t, 0 + n ≤ grownCap w (0 + n) 0 t := fun t => Nat.le_add_right _ _
  refine ⟨_, _, _, rfl, hw.drew.alloc _, _, _, by rw [hw.size], rfl, rfl, ?_, by have := hcap (Ybaz.growL_ren.t 25); omega, fun b hb => hw.free hb⟩
  have := hcap (Ybaz.growL_ren.t 25)
  have hone : (Value.int .i64 0).cells.size = 1 := rfl
  simp only [Builtin.zeroCells, Array.size_append, Array.size_map, Array.size_range, hone, List.size_toArray, List.length_nil]
  omega
end Sx
end Go.Proofs.YbulkcsqkGreat
