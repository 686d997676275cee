import Derived.Test.YbulkcsqkGreatSxTab
import Derived.Laws.StructEq
namespace Go.Proofs.YbulkcsqkGreat
namespace Sx
set_option maxRecDepth 10000
/-- A record against itself. -/
theorem eq60 (a b c d : Int) (s : ByteArray) (w : World) : (Op.equalIn 10000 60 (.agg #[.int .i64 a, .int .i64 b, .int .i64 c, .int .i64 d, .string s]) (.agg #[.int .i64 a, .int .i64 b, .int .i64 c, .int .i64 d, .string s])).run Ybaz.prog w = .ok true w := by
  have h60 : Ybaz.prog.underlying 60 = some (.struct (Ybaz.prog.fieldsOf 60)) := by kernel_rfl
  have h58 : Ybaz.prog.underlying 58 = some (.struct (Ybaz.prog.fieldsOf 58)) := by kernel_rfl
  have h56 : Ybaz.prog.underlying 56 = some (.struct (Ybaz.prog.fieldsOf 56)) := by kernel_rfl
  have p60 : Ybaz.prog.stoodInHeld 60 = false := by kernel_rfl
  have p58 : Ybaz.prog.stoodInHeld 58 = false := by kernel_rfl
  have p56 : Ybaz.prog.stoodInHeld 56 = false := by kernel_rfl
  have u3 := Ybaz.underlying3
  have a3 := Ybaz.isAgg3
  have z3 := Ybaz.sizeOf3
  have u9 := Ybaz.underlying9
  have a9 := Ybaz.isAgg9
  have z9 := Ybaz.sizeOf9
  have a56 := Ybaz.isAgg56
  have z56 := Ybaz.sizeOf56
  have a58 := Ybaz.isAgg58
  have z58 := Ybaz.sizeOf58
  have e56 : ∀ (k : Nat) (x y : Int), (Op.equalIn (k + 2) 56 (.agg #[.int .i64 x, .int .i64 y]) (.agg #[.int .i64 x, .int .i64 y])).run Ybaz.prog w = .ok true w := by
    intro k x y
    rw [run_equalIn_agg w (k + 1) 56 _ _ h56 p56]
    simp only [Program.fieldsOf, Ybaz.underlying56]
    go_simp
  have e58 : ∀ (k : Nat), (Op.equalIn (k + 3) 58 (.agg #[.int .i64 a, .int .i64 b, .int .i64 c, .int .i64 d]) (.agg #[.int .i64 a, .int .i64 b, .int .i64 c, .int .i64 d])).run Ybaz.prog w = .ok true w := by
    intro k
    rw [run_equalIn_agg w (k + 2) 58 _ _ h58 p58]
    simp only [Program.fieldsOf, Ybaz.underlying58]
    clear h60 h58 h56
    go_simp
  rw [show (10000 : Nat) = 9996 + 4 from rfl, run_equalIn_agg w (9996 + 3) 60 _ _ h60 p60]
  simp only [Program.fieldsOf, Ybaz.underlying60]
  clear h60 h58 h56
  go_simp
section
variable {w0 : World} {r : Option Nat} {E : Env} {h : Hp} {N : Nat} {K : Value → Hp → Nat → Prop}
variable {d : Option Tmp} {ty : TypeId} {p : String} {af : Array Edge} {g : Option (Nat × Bool)} {x y : Operand}
theorem ok_neq60 {a b c e : Int} {s : ByteArray} {t' : TypeId} (hx : ev E x = .agg #[.int .i64 a, .int .i64 b, .int .i64 c, .int .i64 e, .string s]) (hy : ev E y = .agg #[.int .i64 a, .int .i64 b, .int .i64 c, .int .i64 e, .string s]) (k : K (.bool false) h N) : opOk Ybaz.prog w0 r ⟨d, .binOp .neq 60 x y t', ty, p, af, g⟩ E h N K :=
  ok_val (fun w => by
    have h1 : (binOp .neq 60 (.agg #[.int .i64 a, .int .i64 b, .int .i64 c, .int .i64 e, .string s]) (.agg #[.int .i64 a, .int .i64 b, .int .i64 c, .int .i64 e, .string s])).run Ybaz.prog w = .ok (.bool false) w := by
      rw [run_neq_struct, eq60]; rfl
    have h2 := run_eqGuard_agg (P := Ybaz.prog) w .neq 60 x y #[.int .i64 a, .int .i64 b, .int .i64 c, .int .i64 e, .string s] #[.int .i64 a, .int .i64 b, .int .i64 c, .int .i64 e, .string s] (by kernel_rfl)
    simp only [execOp, hx, hy, Sem.run_bind, h1, h2, Result.andThen, Sem.run_pure]) k
end
end Sx
end Go.Proofs.YbulkcsqkGreat
