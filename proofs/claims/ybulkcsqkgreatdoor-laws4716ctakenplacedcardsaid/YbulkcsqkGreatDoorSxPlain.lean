import Derived.Test.YbulkcsqkGreatDoorSxBlocked
import Derived.Test.YbulkcsqkGreatDoorSxNewR
namespace Go.Proofs.YbulkcsqkGreatDoor
namespace Sx

/-! ### The law's edges, without Go -/
def eM (n x y : Nat) : Nat := if x % n = y % n then (x % n + 1) % n else y % n
def eA (n x y : Nat) : Nat := if eM n x y < x % n then eM n x y else x % n
def eB (n x y : Nat) : Nat := if eM n x y < x % n then x % n else eM n x y
theorem eM_lt {n : Nat} (hn : 2 ≤ n) (x y : Nat) : eM n x y < n ∧ eM n x y ≠ x % n := by
  have h1 : x % n < n := Nat.mod_lt _ (by omega)
  have h2 : y % n < n := Nat.mod_lt _ (by omega)
  have h3 : (x % n + 1) % n < n := Nat.mod_lt _ (by omega)
  unfold eM
  split
  · refine ⟨h3, ?_⟩
    by_cases e : x % n + 1 = n
    · rw [e, Nat.mod_self]; omega
    · rw [Nat.mod_eq_of_lt (by omega)]; omega
  · rename_i h; exact ⟨h2, fun e => h e.symm⟩
theorem eAB {n : Nat} (hn : 2 ≤ n) (x y : Nat) : eA n x y < eB n x y ∧ eB n x y < n := by
  obtain ⟨h1, h2⟩ := eM_lt hn x y
  have h3 : x % n < n := Nat.mod_lt _ (by omega)
  unfold eA eB
  split <;> omega

def ecs (fa fb : Nat → Nat) : Nat → List Value
  | 0 => []
  | k + 1 => ecs fa fb k ++ [.int .i64 (fa k : Int), .int .i64 (fb k : Int)]
theorem ecs_len (fa fb : Nat → Nat) (k : Nat) : (ecs fa fb k).length = k * 2 := by
  induction k with
  | zero => rfl
  | succ k ih => simp [ecs, ih]; omega
theorem ecs_one (fa fb : Nat → Nat) (k : Nat) : ∀ v ∈ ecs fa fb k, isOne v = true := by
  induction k with
  | zero => intro v hv; cases hv
  | succ k ih =>
    intro v hv
    simp only [ecs, List.mem_append, List.mem_cons, List.not_mem_nil, or_false] at hv
    rcases hv with hv | rfl | rfl
    · exact ih v hv
    · rfl
    · rfl
theorem ecs_get (fa fb : Nat → Nat) (k : Nat) : ∀ j, j < k → ((ecs fa fb k).drop (0 + j * 2)).take 2 = [.int .i64 (fa j : Int), .int .i64 (fb j : Int)] := by
  induction k with
  | zero => intro j hj; omega
  | succ k ih =>
    intro j hj
    have hl := ecs_len fa fb k
    rw [Nat.zero_add]
    simp only [ecs]
    by_cases e : j = k
    · subst e
      rw [List.drop_left' hl]; rfl
    · rw [List.drop_append_of_le_length (by omega), List.take_append_of_le_length (by simp; omega)]
      have := ih j (by omega)
      rw [Nat.zero_add] at this
      exact this
theorem row_get {cs : Array Value} {fa fb : Nat → Nat} {k : Nat} (h : cs.toList.take (k * 2) = ecs fa fb k) : ∀ j, j < k → (cs.toList.drop (0 + j * 2)).take 2 = [.int .i64 (fa j : Int), .int .i64 (fb j : Int)] := by
  intro j hj
  rw [← ecs_get fa fb k j hj, ← h, List.drop_take, List.take_take]
  congr 1
  omega

/-! ### The rows -/
section
variable {n k : Nat} {fa fb : Nat → Nat}
theorem Sst_pre (q : Nat) (l : Nat) : ∀ c, q ≤ c → ∃ r, Sst n k fa fb c l = Sst n k fa fb q l ++ r := by
  intro c
  induction c with
  | zero =>
    intro h
    obtain rfl : q = 0 := Nat.le_zero.1 h
    exact ⟨[], by simp⟩
  | succ c ih =>
    intro h
    by_cases e : q = c + 1
    · subst e; exact ⟨[], by simp⟩
    · obtain ⟨r, hr⟩ := ih (by omega)
      simp only [Sst, ap]
      split
      · rename_i h1
        split
        · rename_i h2; exact ⟨r ++ [fb (k + c)] ++ [fa (k + c)], by rw [← h2, ← h1, hr]; simp⟩
        · exact ⟨r ++ [fa (k + c)], by rw [← h1, hr]; simp⟩
      · split
        · rename_i h2; exact ⟨r ++ [fb (k + c)], by rw [← h2, hr]; simp⟩
        · exact ⟨r, hr⟩
theorem Sst_s (q i : Nat) (hi : i < n) : Sst n k fa fb (q + 1) i = if i = fa (k + q) then Sst n k fa fb q i ++ [fb (k + q)] else Sst n k fa fb q i := by
  simp only [Sst, ap]
  rw [if_neg (by omega)]
  split
  · rename_i h; rw [h]
  · rfl
theorem Sst_p (q i : Nat) (ha : fa (k + q) < n) : Sst n k fa fb (q + 1) (n + i) = if i = fb (k + q) then Sst n k fa fb q (n + i) ++ [fa (k + q)] else Sst n k fa fb q (n + i) := by
  simp only [Sst, ap]
  by_cases h : i = fb (k + q)
  · rw [if_pos (by omega), if_pos h, if_neg (by omega), h]
  · rw [if_neg (by omega), if_neg h, if_neg (by omega)]
theorem Sst_hit_s {q c : Nat} (hq : q < c) (ha : fa (k + q) < n) : ∃ r, Sst n k fa fb c (fa (k + q)) = Sst n k fa fb q (fa (k + q)) ++ fb (k + q) :: r := by
  obtain ⟨r, hr⟩ := Sst_pre (n := n) (k := k) (fa := fa) (fb := fb) (q + 1) (fa (k + q)) c hq
  refine ⟨r, ?_⟩
  rw [hr, Sst_s q _ ha, if_pos rfl]; simp
theorem Sst_hit_p {q c : Nat} (hq : q < c) (ha : fa (k + q) < n) : ∃ r, Sst n k fa fb c (n + fb (k + q)) = Sst n k fa fb q (n + fb (k + q)) ++ fa (k + q) :: r := by
  obtain ⟨r, hr⟩ := Sst_pre (n := n) (k := k) (fa := fa) (fb := fb) (q + 1) (n + fb (k + q)) c hq
  refine ⟨r, ?_⟩
  rw [hr, Sst_p q _ ha, if_pos rfl]; simp
end

/-- What a row's slice shows. -/
theorem Grid.row {h : Hp} {N0 m l : Nat} {V : Nat → Value} {S : Nat → List Nat} (hg : Grid h N0 m V S) (hl : l < m) :
    ∃ ao cap, V l = .slice ao (S l).length cap ∧ ∀ (i x : Nat), (S l)[i]? = some x → ∃ b cs, ao = some ⟨b, 0, none⟩ ∧ h b = some (.cells cs 3 (0, 0)) ∧ cs[i]? = some (.int .i64 (x : Int)) := by
  rcases hg.own l hl with ⟨h1, h2⟩ | ⟨b, n, c, cs, h1, h2, h3, h4, h5, h6⟩
  · have : S l = [] := by simpa [ints] using h2
    rw [this]
    exact ⟨none, 0, h1, fun i x hx => by simp at hx⟩
  · have hn : n = (S l).length := by simpa [ints] using h5.symm
    subst hn
    refine ⟨_, c, h1, fun i x hx => ⟨b, cs, rfl, h2, ?_⟩⟩
    have hlt : i < (S l).length := (List.getElem?_eq_some_iff.1 hx).1
    have e : (cs.toList.take ((S l).length * 1))[i]? = (ints (S l))[i]? := by rw [h6]
    rw [List.getElem?_take, if_pos (by omega)] at e
    rw [← Array.getElem?_toList, e]
    simp [ints, hx]
end Sx
end Go.Proofs.YbulkcsqkGreatDoor
