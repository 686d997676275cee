/-
  No cell of these rows narrows 'for every input' (looked for: loops, veiled, ifaces, maps, wideKeys, modest, calm, conditions, laid).
  DERIVED. THE GIVEN ROWS OF THIS SEAT. 1 by the template 'for every input the law returns true; each argument reads behind the call as it read before'; 0 by the template 'total and deterministic' (their statements: YbulkcsqkGreatTotals.lean).
  GIVEN WITH THE SEED: the statements are not yours to turn. If you find one false, say at which input.
  Laid BY PROGRAM, IN A SANDBOX (cutbox-rows.mjs): the forced cells as the released guide's own fill.sh prints them over the translation adc19b01e94bc93d… (all of the seat's roots in one cut). By AI agents, Wed Nov 11 2026. No macro, syntax, notation, axiom, sorry.
-/
import Derived.Test.YbulkcsqkGreatChecked
import GoSem.Claim
import GoSem.ClaimJoined
import GoSem.ClaimMapViews
import Derived.JoinedTies
import Derived.KernelRfl
namespace Go.Proofs.YbulkcsqkGreat
/- THE CELL 'sum', in the pinned program and in every row, IS THE sha256 OF THE DUMP (.gsa) THAT YbulkcsqkGreatProg.lean LOADS. Nothing in Lean hashes anything: it is a label: what it is worth is what the hold of that sum in a sandbox is worth. -/
noncomputable def Ybaz.pinned : Pinned := { name := "ybulkcsqkgreat", sum := "adc19b01e94bc93d7c82b35e2d74a4d62581f8fb9c7d6cf5639116eb546e17c5", checked := Ybaz.checked }
namespace Rows
def none {H : Type} : Left H := { results := [], args := [] }

/-- 'serigraph.LawS4716AYields': WHATEVER THE INPUT: true; the input reads as it did. -/
def lawS4716AYieldsSpec : ChangeSpec := { name := "lawS4716AYields", fn := fun _ => fun
  | [d1, d2, d3, d4, d5] => { results := [.lit (.bool true)], args := [d1, d2, d3, d4, d5] }
  | _ => none }
def lawS4716AYieldsRow : OpenClaim := { program := "ybulkcsqkgreat", sum := "adc19b01e94bc93d7c82b35e2d74a4d62581f8fb9c7d6cf5639116eb546e17c5", func := "example.com/serigraph/serigraph.LawS4716AYields", spec := "lawS4716AYields", unfollowed := true, recurses := true, apart := false }
def LawS4716AYieldsSaid : Prop := lawS4716AYieldsRow.holds Ybaz.pinned (OpenSpec.ofChange lawS4716AYieldsSpec)

/-- ITS FALSE NEIGHBOUR: 'it returns false'. Refute it at one input. -/
def lawS4716AYieldsWrong : ChangeSpec := { name := "lawS4716AYields", fn := fun _ => fun
  | [d1, d2, d3, d4, d5] => { results := [.lit (.bool false)], args := [d1, d2, d3, d4, d5] }
  | _ => none }
def LawS4716AYieldsWrongFalsely : Prop := lawS4716AYieldsRow.holds Ybaz.pinned (OpenSpec.ofChange lawS4716AYieldsWrong)

end Rows
end Go.Proofs.YbulkcsqkGreat
