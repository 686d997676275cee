import Derived.Test.YbulkcsqkGreatSxSep
namespace Go.Proofs.YbulkcsqkGreat
namespace Sx

/-- Which function a method's name stands for at a type, and whether it takes a pointer. -/
def methOf (P : Program) (t : TypeId) (name : String) : Option (FuncId × Bool) :=
  (P.info? t).bind fun i => (i.methods.find? (·.name == name)).bind fun m => if m.path.isEmpty then m.func else none
section
variable {P : Program} {w0 : World} {r : Option Nat} {E : Env} {h : Hp} {N : Nat} {K : Value → Hp → Nat → Prop}
variable {d : Option Tmp} {ty : TypeId} {p : String} {af : Array Edge} {g : Option (Nat × Bool)} {x y : Operand} {t : TypeId}

theorem methOf_spec {name : String} {f : FuncId} {pr : Bool} (hm : methOf P t name = some (f, pr)) : ∃ i m, P.info? t = some i ∧ i.methods.find? (·.name == name) = some m ∧ m.path = #[] ∧ m.func = some (f, pr) := by
  unfold methOf at hm
  obtain ⟨i, hi, hm⟩ := Option.bind_eq_some_iff.1 hm
  obtain ⟨m, hm1, hm⟩ := Option.bind_eq_some_iff.1 hm
  split at hm
  · rename_i hp
    exact ⟨i, m, hi, hm1, by simpa using hp, hm⟩
  · cases hm

theorem run_method_ptr {name : String} {f : FuncId} {e : TypeId} {v : Value} (hM : methOf P t name = some (f, true)) (hu : P.underlying t = some (.pointer e)) (w : World) (k : Nat) : (method (k + 1) t v name).run P w = .ok (f, v) w := by
  obtain ⟨i, m, hi, hm, hp, hf⟩ := methOf_spec hM
  have h1 : (typeInfo t).run P w = .ok i w := run_typeInfo w hi
  simp only [method, Sem.run_bind, h1, Result.andThen, hm, hp, follow, Sem.run_pure, hf, receiverAt, run_underlying hu, Place.get]
theorem run_method_val {name : String} {f : FuncId} {e : TypeId} {a : Addr} {u : Value} (hM : methOf P t name = some (f, false)) (hu : P.underlying t = some (.pointer e)) (w : World) (k : Nat) (hl : (loadVar e a).run P w = .ok u w) : (method (k + 1) t (.pointer (some a)) name).run P w = .ok (f, u) w := by
  obtain ⟨i, m, hi, hm, hp, hf⟩ := methOf_spec hM
  have h1 : (typeInfo t).run P w = .ok i w := run_typeInfo w hi
  simp only [method, Sem.run_bind, h1, Result.andThen, hm, hp, follow, Sem.run_pure, hf, receiverAt, run_underlying hu, Place.get]
  have h2 : ∀ n, (Builtin.ssaWrapNilChk_ #[t] t #[.pointer (some a), strVal "", strVal n]).run P w = .ok (.pointer (some a)) w := fun _ => rfl
  have h3 : (asAddr (.pointer (some a))).run P w = .ok a w := rfl
  simp only [if_true, Array.isEmpty_empty, h2, Sem.run_bind, Result.andThen, h3, hl]
theorem run_callMethod {f : FuncId} {t : TypeId} {v u : Value} {name : String} {args : Array Value} {w : World} (he : Enters P f) (hm : ∀ k, (method (k + 1) t v name).run P w = .ok (f, u) w) : (callMethod (.iface t v) name args).run P w = .ok (.enter f (#[u] ++ args)) w := by
  have h1 : (method (P.types.size + Made.depth) t v name).run P w = .ok (f, u) w := hm (P.types.size + 99)
  have h2 : (program).run P w = .ok P w := rfl
  simp only [callMethod, Sem.run_bind, h2, Result.andThen, h1]
  exact he _ w
theorem run_invoke {f : FuncId} {t : TypeId} {v u : Value} {name : String} {xs : Array Operand} {ts : Array TypeId} {w : World} (hx : ev E x = .iface t v) (he : Enters P f) (hm : ∀ k, (method (k + 1) t v name).run P w = .ok (f, u) w) :
    (execOp (ev E) ⟨d, .call { callee := .invoke x name, args := xs, argTypes := ts }, ty, p, af, g⟩).run P w = .ok (.enter f (#[u] ++ xs.map (ev E))) w := by
  have h1 := run_callMethod (args := (#[Value.iface t v] ++ xs.map (ev E)).extract 1 (#[Value.iface t v] ++ xs.map (ev E)).size) he hm
  have h2 : (#[Value.iface t v] ++ xs.map (ev E)).extract 1 (#[Value.iface t v] ++ xs.map (ev E)).size = xs.map (ev E) := by
    apply Array.ext'
    simp only [Array.toList_extract, Array.toList_append, Array.toList_map, List.extract_eq_take_drop]
    simp only [List.cons_append, List.nil_append, List.drop_succ_cons, List.drop_zero]
    rw [List.take_of_length_le]
    simp
  have h3 : (#[Value.iface t v] ++ xs.map (ev E))[0]? = some (Value.iface t v) := by
    rw [← Array.getElem?_toList, Array.toList_append]; rfl
  rw [h2] at h1
  simp only [execOp, resolve, hx, Sem.run_bind, Sem.run_pure, Result.andThen, invoke, h3, h2, h1]
/-- A call of a method that takes a pointer, through an interface. -/
theorem ok_invoke_ptr {e t : TypeId} {f : FuncId} {v : Value} {name : String} {xs : Array Operand} {ts : Array TypeId} {args : List Value} {R : Value → Hp → Nat → Prop} (hx : ev E x = .iface t v) (hM : methOf P t name = some (f, true)) (hu : P.underlying t = some (.pointer e)) (he : Enters P f) (hc : CallsX P w0 f args.toArray h N R) (ha : v :: xs.toList.map (ev E) = args)
    (k : ∀ v h' N', R v h' N' → K v h' N') : opOk P w0 r ⟨d, .call { callee := .invoke x name, args := xs, argTypes := ts }, ty, p, af, g⟩ E h N K := by
  intro w hw
  rw [run_invoke hx he (fun k => run_method_ptr hM hu w k)]
  have ha : #[v] ++ xs.map (ev E) = args.toArray := by apply Array.ext'; rw [← ha]; simp
  rw [ha]
  exact callsIn_FW ((hc w hw).mono (back_mono k))
/-- .. that takes the value behind the pointer. -/
theorem ok_invoke_val {e t : TypeId} {f : FuncId} {b o n bytes : Nat} {u zv : Value} {name : String} {xs : Array Operand} {ts : Array TypeId} {args : List Value} {R : Value → Hp → Nat → Prop} {cs : Array Value} {te : TypeId} {fz : Nat × Nat} (hx : ev E x = .iface t (.pointer (some ⟨b, o, none⟩))) (hM : methOf P t name = some (f, false)) (hu : P.underlying t = some (.pointer e)) (hT : Ty P e false n bytes zv) (hb : h b = some (.cells cs te fz)) (hv : cs[o]? = some u) (he : Enters P f) (hc : CallsX P w0 f args.toArray h N R) (ha : u :: xs.toList.map (ev E) = args)
    (k : ∀ v h' N', R v h' N' → K v h' N') : opOk P w0 r ⟨d, .call { callee := .invoke x name, args := xs, argTypes := ts }, ty, p, af, g⟩ E h N K := by
  intro w hw
  have hl : (loadVar e ⟨b, o, none⟩).run P w = .ok u w := by
    have h1 : (load ⟨b, o, none⟩).run P w = .ok u w := by simp [load, Sem.run, hw.cell hb, hv]
    simp only [loadVar, Sem.run_bind, run_isAgg hT.und, Result.andThen, Bool.false_eq_true, if_false, h1]
  rw [run_invoke hx he (fun k => run_method_val hM hu w k hl)]
  have ha : #[u] ++ xs.map (ev E) = args.toArray := by apply Array.ext'; rw [← ha]; simp
  rw [ha]
  exact callsIn_FW ((hc w hw).mono (back_mono k))
theorem ok_makeInterface {v : Value} {u : TypeDesc} (hu : P.underlying t = some u) (hi : ∀ ms, u ≠ .interface ms) (hx : ev E x = v) (k : K (.iface t v) h N) : opOk P w0 r ⟨d, .makeInterface t x, ty, p, af, g⟩ E h N K := by
  refine ok_val (v := .iface t v) (fun w => ?_) k
  simp only [execOp, hx, Instr.makeInterface, Sem.run_bind, run_underlying hu, Result.andThen]
  cases u <;> first | exact absurd rfl (hi _) | rfl
theorem ok_typeAssert {s t : TypeId} {v : Value} {u : TypeDesc} (hu : P.underlying t = some u) (hi : ∀ ms, u ≠ .interface ms) (hx : ev E x = .iface t v) (k : K v h N) : opOk P w0 r ⟨d, .typeAssert x s t false, ty, p, af, g⟩ E h N K := by
  refine ok_val (v := v) (fun w => ?_) k
  simp only [execOp, hx, Instr.typeAssert, Sem.run_bind, run_underlying hu, Result.andThen]
  cases u <;> first | exact absurd rfl (hi _) | simp [go_sem]
end
end Sx
end Go.Proofs.YbulkcsqkGreat
