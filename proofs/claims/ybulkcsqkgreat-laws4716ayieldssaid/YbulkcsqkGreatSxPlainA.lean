import Derived.Test.YbulkcsqkGreatSxPred
import Derived.Test.YbulkcsqkGreatSxPlainB
namespace Go.Proofs.YbulkcsqkGreat
namespace Sx
section
variable {n : Nat} {S : Nat → List Nat} {i j k : Nat}
/-! #### The way back -/
theorem tc_turn (h : TC S i j) (hl : ∀ i, i < n → ∀ k, k ∈ S i → k < n) : i < n → TC (fun j => Pl S n j) j i := by
  induction h using TC.ind with
  | one h => exact fun hi => .one (mem_Pl.2 ⟨hi, h⟩)
  | cons h _ ih => exact fun hi => (ih (hl _ hi _ h)).trans (.one (mem_Pl.2 ⟨hi, h⟩))
theorem tc_turn' (h : TC (fun j => Pl S n j) i j) : TC S j i ∧ j < n := by
  induction h using TC.ind with
  | one h => exact ⟨.one (mem_Pl.1 h).2, (mem_Pl.1 h).1⟩
  | cons h _ ih => exact ⟨ih.1.trans (.one (mem_Pl.1 h).2), ih.2⟩
theorem rc_turn (hl : ∀ i, i < n → ∀ k, k ∈ S i → k < n) (hi : i < n) : RC (fun j => Pl S n j) j i ↔ RC S i j := by
  constructor
  · rintro (rfl | h)
    · exact .inl rfl
    · exact .inr (tc_turn' h).1
  · rintro (rfl | h)
    · exact .inl rfl
    · exact .inr (tc_turn h hl hi)

end
end Sx
end Go.Proofs.YbulkcsqkGreat
