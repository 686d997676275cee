import Derived.Test.YbulkcsqkGreatSxTopo
namespace Go.Proofs.YbulkcsqkGreat
namespace Sx
/-! ### Ways in a graph, without Go -/
/-- A way of one edge at least. -/
def Way (S : Nat → List Nat) : Nat → Nat → Nat → Prop
  | 0, i, j => j ∈ S i
  | k + 1, i, j => ∃ x, x ∈ S i ∧ Way S k x j
def TC (S : Nat → List Nat) (i j : Nat) : Prop := ∃ k, Way S k i j
theorem TC.one {S : Nat → List Nat} {i j : Nat} (h : j ∈ S i) : TC S i j := ⟨0, h⟩
theorem TC.cons {S : Nat → List Nat} {i j k : Nat} (h : j ∈ S i) (h2 : TC S j k) : TC S i k := by
  obtain ⟨l, hl⟩ := h2
  exact ⟨l + 1, j, h, hl⟩
theorem TC.ind {S : Nat → List Nat} {motive : (i j : Nat) → TC S i j → Prop} (one : ∀ {i j : Nat} (h : j ∈ S i), motive i j (TC.one h)) (cons : ∀ {i j k : Nat} (h : j ∈ S i) (h2 : TC S j k), motive j k h2 → motive i k (TC.cons h h2)) {i j : Nat} (h : TC S i j) : motive i j h := by
  obtain ⟨l, hl⟩ := h
  induction l generalizing i with
  | zero => exact one hl
  | succ l ih =>
    obtain ⟨x, h1, h2⟩ := hl
    exact cons h1 ⟨l, h2⟩ (ih h2)
def RC (S : Nat → List Nat) (i j : Nat) : Prop := i = j ∨ TC S i j
section
variable {n : Nat} {S : Nat → List Nat} {i j k : Nat}
theorem TC.trans (h1 : TC S i j) (h2 : TC S j k) : TC S i k := by
  induction h1 using TC.ind with
  | one h => exact .cons h h2
  | cons h _ ih => exact .cons h (ih h2)
theorem RC.refl (i : Nat) : RC S i i := .inl rfl
theorem RC.trans (h1 : RC S i j) (h2 : RC S j k) : RC S i k := by
  rcases h1 with rfl | h1
  · exact h2
  · rcases h2 with rfl | h2
    · exact .inr h1
    · exact .inr (h1.trans h2)
theorem RC.edge (h : j ∈ S i) : RC S i j := .inr (.one h)
theorem TC.split (h : TC S i j) : ∃ k, k ∈ S i ∧ RC S k j := by
  induction h using TC.ind with
  | one h => exact ⟨_, h, .inl rfl⟩
  | cons h h2 _ => exact ⟨_, h, .inr h2⟩
theorem TC.last (h : TC S i j) : ∃ k, j ∈ S k ∧ RC S i k := by
  induction h using TC.ind with
  | one h => exact ⟨_, h, .inl rfl⟩
  | cons h _ ih =>
    obtain ⟨k, h1, h2⟩ := ih
    exact ⟨k, h1, (RC.edge h).trans h2⟩
theorem TC.lt (hl : ∀ i, i < n → ∀ k, k ∈ S i → k < n) (h : TC S i j) : i < n → j < n := by
  induction h using TC.ind with
  | one h => exact fun hi => hl _ hi _ h
  | cons h _ ih => exact fun hi => ih (hl _ hi _ h)
theorem RC.lt (hl : ∀ i, i < n → ∀ k, k ∈ S i → k < n) (h : RC S i j) (hi : i < n) : j < n := by
  rcases h with rfl | h
  · exact hi
  · exact h.lt hl hi
/-- A set that holds i and the successors of each of its nodes holds all that i leads to. -/
theorem RC.closed {L : Nat → Prop} (hL : ∀ i, L i → ∀ k, k ∈ S i → L k) (h : RC S i j) (hi : L i) : L j := by
  rcases h with rfl | h
  · exact hi
  · induction h using TC.ind with
    | one h => exact hL _ hi _ h
    | cons h _ ih => exact ih (hL _ hi _ h)

/-! #### The order -/
theorem idx_lt {ord : List Nat} (hT : Tp n S ord) (hnd : ord.Nodup) (hall : ∀ i, i < n → i ∈ ord) (hl : ∀ i, i < n → ∀ k, k ∈ S i → k < n) (hi : i < n) (hj : j ∈ S i) : ord.idxOf i < ord.idxOf j := by
  obtain ⟨l1, l2, e⟩ := List.append_of_mem (hall j (hl i hi j hj))
  have h1 := hT l1 j l2 e i hi hj
  have hj1 : j ∉ l1 := by
    rw [e, List.nodup_append] at hnd
    exact fun hm => hnd.2.2 j hm j (by simp) rfl
  rw [e, List.idxOf_append, List.idxOf_append, if_pos h1, if_neg hj1]
  have := List.idxOf_lt_length_iff.2 h1
  omega
theorem tc_idx {ord : List Nat} (hT : Tp n S ord) (hnd : ord.Nodup) (hall : ∀ i, i < n → i ∈ ord) (hl : ∀ i, i < n → ∀ k, k ∈ S i → k < n) (h : TC S i j) : i < n → ord.idxOf i < ord.idxOf j := by
  induction h using TC.ind with
  | one h => exact fun hi => idx_lt hT hnd hall hl hi h
  | cons h _ ih => exact fun hi => Nat.lt_trans (idx_lt hT hnd hall hl hi h) (ih (hl _ hi _ h))
theorem acyclic_of {ord : List Nat} (hT : Tp n S ord) (hnd : ord.Nodup) (hall : ∀ i, i < n → i ∈ ord) (hl : ∀ i, i < n → ∀ k, k ∈ S i → k < n) (hi : i < n) : ¬ TC S i i :=
  fun h => Nat.lt_irrefl _ (tc_idx hT hnd hall hl h hi)

/-! #### The closure by matrices -/
def fwStep (k : Nat) (M : Nat → Nat → Bool) : Nat → Nat → Bool := fun i j => M i j || (M i k && M k j)
def fw (M : Nat → Nat → Bool) : Nat → Nat → Nat → Bool
  | 0 => M
  | k + 1 => fwStep k (fw M k)
theorem fw_refl {M : Nat → Nat → Bool} (h0 : M i i = true) : ∀ k, fw M k i i = true
  | 0 => h0
  | k + 1 => by simp [fw, fwStep, fw_refl h0 k]
theorem fw_mono {M : Nat → Nat → Bool} (h0 : M i j = true) : ∀ k, fw M k i j = true
  | 0 => h0
  | k + 1 => by simp [fw, fwStep, fw_mono h0 k]
theorem fw_sound {M : Nat → Nat → Bool} (h0 : ∀ i j, i < n → j < n → M i j = true → RC S i j) : ∀ k, k ≤ n → ∀ i j, i < n → j < n → fw M k i j = true → RC S i j
  | 0, _, i, j, hi, hj, h => h0 i j hi hj h
  | k + 1, hk, i, j, hi, hj, h => by
    simp only [fw, fwStep, Bool.or_eq_true, Bool.and_eq_true] at h
    rcases h with h | ⟨h1, h2⟩
    · exact fw_sound h0 k (by omega) i j hi hj h
    · exact (fw_sound h0 k (by omega) i k hi (by omega) h1).trans (fw_sound h0 k (by omega) k j (by omega) hj h2)
theorem fw_trans {M : Nat → Nat → Bool} : ∀ k, ∀ x, x < k → ∀ i j, fw M k i x = true → fw M k x j = true → fw M k i j = true
  | 0, x, hx, _, _, _, _ => absurd hx (Nat.not_lt_zero x)
  | k + 1, x, hx, i, j, h1, h2 => by
    have ih := fw_trans (M := M) k
    simp only [fw, fwStep, Bool.or_eq_true, Bool.and_eq_true] at h1 h2 ⊢
    by_cases e : x = k
    · subst e
      have h1' : fw M x i x = true := by rcases h1 with h | ⟨h, _⟩ <;> exact h
      have h2' : fw M x x j = true := by rcases h2 with h | ⟨_, h⟩ <;> exact h
      exact .inr ⟨h1', h2'⟩
    · have hxk : x < k := by omega
      rcases h1 with h1 | ⟨h1, h1'⟩
      · rcases h2 with h2 | ⟨h2, h2'⟩
        · exact .inl (ih x hxk i j h1 h2)
        · exact .inr ⟨ih x hxk i k h1 h2, h2'⟩
      · rcases h2 with h2 | ⟨h2, h2'⟩
        · exact .inr ⟨h1, ih x hxk k j h1' h2⟩
        · exact .inr ⟨h1, h2'⟩
theorem fw_all {M : Nat → Nat → Bool} (hM : ∀ i j, i < n → j < n → (M i j = true ↔ i = j ∨ j ∈ S i)) (hl : ∀ i, i < n → ∀ k, k ∈ S i → k < n) (hi : i < n) (hj : j < n) : fw M n i j = true ↔ RC S i j := by
  constructor
  · refine fw_sound (fun i j hi hj h => ?_) n (Nat.le_refl n) i j hi hj
    rcases (hM i j hi hj).1 h with rfl | h
    · exact .inl rfl
    · exact RC.edge h
  · rintro (rfl | h)
    · exact fw_refl ((hM i i hi hi).2 (.inl rfl)) n
    · clear hj
      induction h using TC.ind with
      | one h => exact fw_mono ((hM _ _ hi (hl _ hi _ h)).2 (.inr h)) n
      | cons h _ ih =>
        have hk := hl _ hi _ h
        exact fw_trans n _ hk _ _ (fw_mono ((hM _ _ hi hk).2 (.inr h)) n) (ih hk)
/-- A cycle shows in the matrix. -/
theorem cyc_all (hl : ∀ i, i < n → ∀ k, k ∈ S i → k < n) : (∃ i, i < n ∧ TC S i i) ↔ (∃ i, i < n ∧ i ∈ S i) ∨ ∃ i j, i < j ∧ j < n ∧ RC S i j ∧ RC S j i := by
  constructor
  · rintro ⟨i, hi, h⟩
    obtain ⟨k, h1, h2⟩ := h.split
    by_cases e : i = k
    · subst e; exact .inl ⟨i, hi, h1⟩
    · have hk := hl i hi k h1
      rcases Nat.lt_or_ge i k with h3 | h3
      · exact .inr ⟨i, k, h3, hk, RC.edge h1, h2⟩
      · exact .inr ⟨k, i, by omega, hi, h2, RC.edge h1⟩
  · rintro (⟨i, hi, h⟩ | ⟨i, j, h1, h2, h3, h4⟩)
    · exact ⟨i, hi, .one h⟩
    · refine ⟨i, by omega, ?_⟩
      rcases h3 with rfl | h3
      · omega
      · rcases h4 with rfl | h4
        · exact h3
        · exact h3.trans h4
end
/-! ### A search by levels, without Go -/
structure BInv (n start : Nat) (L : List Nat) (vi : Nat → Int) : Prop where
  nd : L.Nodup
  lt : ∀ x, x ∈ L → x < n
  st : start ∈ L
  neg : ∀ j, j < n → j ≠ start → (vi j < 0 ↔ j ∉ L)
  back : ∀ k, k ∈ L → k ≠ start → ∃ p : Nat, vi k = (p : Int) ∧ p ∈ L ∧ L.idxOf p < L.idxOf k
section
variable {n start : Nat} {L : List Nat} {vi : Nat → Int} {S : Nat → List Nat}
theorem BInv.first (hs : start < n) (hv : ∀ j, j < n → vi j = -1) : BInv n start [start] vi := by
  refine ⟨by simp, fun x hx => by simp at hx; omega, by simp, fun j hj hne => ?_, fun k hk hne => ?_⟩
  · rw [hv j hj]; simp [hne]
  · simp at hk; exact absurd hk hne
theorem nd_sub {L : List Nat} (hnd : L.Nodup) (hlt : ∀ x, x ∈ L → x < n) : L.length ≤ n := by
  have := List.Nodup.length_le_of_subset hnd (l₂ := List.range n) (fun x hx => List.mem_range.2 (hlt x hx))
  rwa [List.length_range] at this
theorem BInv.len (hB : BInv n start L vi) : L.length ≤ n := nd_sub hB.nd hB.lt
theorem BInv.step (hB : BInv n start L vi) {i j : Nat} (hi : i ∈ L) (hj : j < n) (hv : vi j < 0) (hne : j ≠ start) : BInv n start (L ++ [j]) (fun k => if k = j then (i : Int) else vi k) := by
  have hjL : j ∉ L := (hB.neg j hj hne).1 hv
  have hix : ∀ x, x ∈ L → (L ++ [j]).idxOf x = L.idxOf x := fun x hx => by rw [List.idxOf_append, if_pos hx]
  refine ⟨?_, ?_, by simp [hB.st], ?_, ?_⟩
  · rw [List.nodup_append]
    refine ⟨hB.nd, by simp, ?_⟩
    intro a ha b hb e
    simp at hb
    subst hb; subst e; exact hjL ha
  · intro x hx
    rcases List.mem_append.1 hx with h | h
    · exact hB.lt x h
    · simp at h; omega
  · intro k hk hks
    by_cases e : k = j
    · subst e; simp
    · simp only [e, if_false, List.mem_append, List.mem_singleton, or_false]; exact hB.neg k hk hks
  · intro k hk hks
    by_cases e : k = j
    · subst e
      refine ⟨i, by simp, by simp [hi], ?_⟩
      rw [hix i hi, List.idxOf_append, if_neg hjL]
      have := List.idxOf_lt_length_iff.2 hi
      omega
    · have hkL : k ∈ L := by simpa [e] using hk
      obtain ⟨p, h1, h2, h3⟩ := hB.back k hkL hks
      exact ⟨p, by simp [e, h1], by simp [h2], by rw [hix p h2, hix k hkL]; exact h3⟩
theorem BInv.have (hB : BInv n start L vi) {j : Nat} (hj : j < n) (hv : ¬ (vi j < 0 ∧ j ≠ start)) : j ∈ L := by
  by_cases e : j = start
  · subst e; exact hB.st
  · apply Classical.byContradiction
    intro hm
    exact hv ⟨(hB.neg j hj e).2 hm, e⟩
/-- The search never runs dry before it comes to a node that leads back. -/
theorem never_dry {ld : Nat → Bool} (hst : start ∈ L) (hsn : start < n) (hl : ∀ i, i < n → ∀ k, k ∈ S i → k < n) (hcl : ∀ x, x ∈ L → ∀ y, y ∈ S x → y ∈ L) (hno : ∀ x, x ∈ L → ld x = false) (hld : ∀ x, x < n → start ∈ S x → ld x = true) (hc : TC S start start) : False := by
  obtain ⟨k, h1, h2⟩ := hc.last
  have hk := RC.closed (L := fun x => x ∈ L) hcl h2 hst
  have := hno k hk
  rw [hld k (h2.lt hl hsn) h1] at this
  cases this
end

/-! ### The rows of the closure, without Go -/
/-- What row i holds when the successors in ys are taken in. -/
def UInv (S : Nat → List Nat) (i n : Nat) (ys : List Nat) (B : Nat → Bool) : Prop := ∀ x, x < n → (B x = true ↔ x = i ∨ ∃ y, y ∈ ys ∧ RC S y x)
section
variable {n i j : Nat} {S : Nat → List Nat} {ys : List Nat} {B : Nat → Bool}
theorem UInv.skip (hU : UInv S i n ys B) (hj : j < n) (hb : B j = true) (hji : j ≠ i) : UInv S i n (ys ++ [j]) B := by
  intro x hx
  rw [hU x hx]
  constructor
  · rintro (h | ⟨y, h1, h2⟩)
    · exact .inl h
    · exact .inr ⟨y, by simp [h1], h2⟩
  · rintro (h | ⟨y, h1, h2⟩)
    · exact .inl h
    · rcases List.mem_append.1 h1 with h1 | h1
      · exact .inr ⟨y, h1, h2⟩
      · simp at h1; subst h1
        rcases (hU y hj).1 hb with h3 | ⟨z, h3, h4⟩
        · exact absurd h3 hji
        · exact .inr ⟨z, h3, h4.trans h2⟩
theorem UInv.take {C : Nat → Bool} (hU : UInv S i n ys B) (hC : ∀ x, x < n → (C x = true ↔ RC S j x)) : UInv S i n (ys ++ [j]) (fun x => B x || C x) := by
  intro x hx
  simp only [Bool.or_eq_true]
  rw [hU x hx, hC x hx]
  constructor
  · rintro ((h | ⟨y, h1, h2⟩) | h)
    · exact .inl h
    · exact .inr ⟨y, by simp [h1], h2⟩
    · exact .inr ⟨j, by simp, h⟩
  · rintro (h | ⟨y, h1, h2⟩)
    · exact .inl (.inl h)
    · rcases List.mem_append.1 h1 with h1 | h1
      · exact .inl (.inr ⟨y, h1, h2⟩)
      · simp at h1; subst h1; exact .inr h2
theorem UInv.all (hU : UInv S i n ys B) (hys : ∀ y, y ∈ ys ↔ y ∈ S i) {x : Nat} (hx : x < n) : B x = true ↔ RC S i x := by
  rw [hU x hx]
  constructor
  · rintro (h | ⟨y, h1, h2⟩)
    · exact .inl h.symm
    · exact (RC.edge ((hys y).1 h1)).trans h2
  · rintro (h | h)
    · exact .inl h.symm
    · obtain ⟨k, h1, h2⟩ := h.split
      exact .inr ⟨k, (hys k).2 h1, h2⟩
end
end Sx
end Go.Proofs.YbulkcsqkGreat
