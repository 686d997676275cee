import Derived.Test.YbulkcsqkGreatSxFun
import Derived.Laws.IdiomRangeMap
namespace Go.Proofs.YbulkcsqkGreat
namespace Sx

def ints (l : List Nat) : List Value := l.map fun (x : Nat) => Value.int .i64 (x : Int)

/-- A map of numbers: its keys are xs, each once. -/
structure MapI (es : Array MapEntry) (clock : Nat) (xs : List Nat) : Prop where
  keys : es.toList.map (·.key) = ints xs
  nd : xs.Nodup
  bnd : (es.toList.map (·.born)).Nodup
  lt : ∀ e ∈ es.toList, e.born < clock

def ins (xs : List Nat) (x : Nat) : List Nat := if x ∈ xs then xs else xs ++ [x]
theorem mem_ins {xs : List Nat} {x y : Nat} : y ∈ ins xs x ↔ y ∈ xs ∨ y = x := by
  unfold ins
  split
  · rename_i h
    constructor
    · exact .inl
    · rintro (h1 | rfl)
      · exact h1
      · exact h
  · simp

theorem ints_inj {x y : Nat} (h : Value.int .i64 (x : Int) = .int .i64 (y : Int)) : x = y := by
  injection h with _ h; omega

/-- What looking for a key comes to. -/
theorem findNow_int (x : Nat) : ∀ (l : List MapEntry) (xs : List Nat) (i : Nat), l.map (·.key) = ints xs →
    (x ∉ xs ∧ Instr.findNow (.int .i64) (.int .i64 (x : Int)) l i = some none) ∨ ∃ j e, l[j]? = some e ∧ e.key = .int .i64 (x : Int) ∧ Instr.findNow (.int .i64) (.int .i64 (x : Int)) l i = some (some (i + j, e.val)) := by
  intro l
  induction l with
  | nil =>
    intro xs i hk
    have : xs = [] := by simpa [ints] using hk.symm
    subst this
    exact .inl ⟨by simp, rfl⟩
  | cons e l ih =>
    intro xs i hk
    cases xs with
    | nil => simp [ints] at hk
    | cons y ys =>
      simp only [ints, List.map_cons, List.cons.injEq] at hk
      by_cases hxy : x = y
      · subst hxy
        refine .inr ⟨0, e, rfl, hk.1, ?_⟩
        simp [Instr.findNow, hk.1, Instr.sameNow]
      · have hne : ((x : Int) == (y : Int)) = false := by simp; omega
        have hstep : Instr.findNow (.int .i64) (.int .i64 (x : Int)) (e :: l) i = Instr.findNow (.int .i64) (.int .i64 (x : Int)) l (i + 1) := by
          simp [Instr.findNow, hk.1, Instr.sameNow, hne]
        rcases ih ys (i + 1) hk.2 with ⟨h1, h2⟩ | ⟨j, e', h1, h2, h3⟩
        · exact .inl ⟨by simp [hxy, h1], by rw [hstep, h2]⟩
        · exact .inr ⟨j + 1, e', by simpa using h1, h2, by rw [hstep, h3]; congr 3; omega⟩

section
variable {P : Program} {w0 : World} {r : Option Nat} {E : Env} {h : Hp} {N : Nat} {K : Value → Hp → Nat → Prop}
variable {d : Option Tmp} {ty : TypeId} {p : String} {af : Array Edge} {g : Option (Nat × Bool)} {x y z : Operand} {t : TypeId} {b : Nat}

theorem At.obj {w : World} (ha : At w0 h N w) {o : Obj} (hb : h b = some o) : w.heap[b]? = some o := by rw [ha.heap]; exact hb
def noRow : Obj → Bool
  | .cells _ _ _ => false
  | _ => true
theorem run_getObj {w : World} {o : Obj} (hb : w.heap[b]? = some o) (ho : noRow o = true) : (getObj b).run P w = .ok o w := by
  simp only [getObj, Sem.run, hb]
  cases o <;> first | rfl | cases ho
theorem run_setObj {w : World} {o o' : Obj} (hb : w.heap[b]? = some o') (ho : noRow o' = true) : (setObj b o).run P w = .ok () { w with heap := w.heap.setIfInBounds b o } := by
  simp only [setObj, Sem.run, hb]
  cases o' <;> first | rfl | cases ho

theorem ok_makeMap (k : (∀ b, N ≤ b → h b = none) → K (.map (some N)) (hset h N (.map #[] 0)) (N + 1)) : opOk P w0 r ⟨d, .makeMap t none, ty, p, af, g⟩ E h N K := by
  refine ok_of fun w hw => ⟨_, _, _, _, ?_, hw.alloc (.map #[] 0), k (fun _ hb => hw.free hb)⟩
  have h1 : (Instr.makeMap t none).run P w = .ok (.map (some w.heap.size)) (w.alloc (.map #[] 0)) := rfl
  simp only [execOp, Option.map_none, Sem.run_bind, h1, Result.andThen, Sem.run_pure, hw.size]

theorem modify_keys {es : Array MapEntry} {j : Nat} {e : MapEntry} {v : Value} (hj : es.toList[j]? = some e) :
    (es.modify j fun a => { a with key := e.key, val := v }).toList.map (·.key) = es.toList.map (·.key) ∧ (es.modify j fun a => { a with key := e.key, val := v }).toList.map (·.born) = es.toList.map (·.born) := by
  constructor
  · apply List.ext_getElem?
    intro i
    simp only [List.getElem?_map, Array.getElem?_toList, Array.getElem?_modify]
    split
    · rename_i h; subst h
      rw [Array.getElem?_toList] at hj
      simp [hj]
    · rfl
  · apply List.ext_getElem?
    intro i
    simp only [List.getElem?_map, Array.getElem?_toList, Array.getElem?_modify]
    split
    · rename_i h; subst h
      rw [Array.getElem?_toList] at hj
      simp [hj]
    · rfl

theorem ok_mapUpdate {kt et : TypeId} {es : Array MapEntry} {clock xk : Nat} {xs : List Nat} {v : Value} (hT : P.underlying t = some (.map kt et)) (hK : P.underlying kt = some (.int .i64)) (hx : ev E x = .map (some b)) (hy : ev E y = .int .i64 (xk : Int)) (hz : ev E z = v) (hb : h b = some (.map es clock)) (hI : MapI es clock xs)
    (k : ∀ es' clock', MapI es' clock' (ins xs xk) → K undef (hset h b (.map es' clock')) N) : opOk P w0 r ⟨d, .mapUpdate t x y z, ty, p, af, g⟩ E h N K := by
  refine ok_of_skip fun w hw => ?_
  have hwb := hw.obj hb
  have hck0 : ∀ n, (Instr.checkKey false (n + 1) kt (.int .i64 (xk : Int))).run P w = .ok () w := fun n => by
    simp [Instr.checkKey, run_underlying hK]
  have hck : (Instr.checkKey false 10000 kt (.int .i64 (xk : Int))).run P w = .ok () w := hck0 9999
  have hset : ∀ o, (setObj b o).run P w = .ok () { w with heap := w.heap.setIfInBounds b o } := fun o => run_setObj hwb rfl
  rcases findNow_int xk es.toList xs 0 hI.keys with ⟨hn, hf⟩ | ⟨j, e, hj, hke, hf⟩
  · have hfk : (Instr.findKey kt (.int .i64 (xk : Int)) es.toList).run P w = .ok none w := by simp [Instr.findKey, run_underlying hK, hf]
    refine ⟨_, _, N, ?_, hw.set (hw.lt hb) (.map (es.push { key := .int .i64 (xk : Int), val := v, born := clock }) (clock + 1)), k _ _ ?_⟩
    · simp only [execOp, hx, hy, hz, Instr.mapUpdate, Sem.run_bind, run_underlying hT, Result.andThen, run_getObj hwb rfl, hck, hfk, hset, Sem.run_pure]
    · refine ⟨?_, ?_, ?_, ?_⟩
      · rw [ins, if_neg hn]; simp [hI.keys, ints]
      · rw [ins, if_neg hn]; simp only [List.nodup_append]; refine ⟨hI.nd, by simp, ?_⟩
        intro a ha c hc; simp at hc; subst hc; intro e; subst e; exact hn ha
      · simp only [Array.toList_push, List.map_append, List.map_cons, List.map_nil, List.nodup_append]
        refine ⟨hI.bnd, by simp, ?_⟩
        intro a ha c hc
        simp at hc
        obtain ⟨e, he, rfl⟩ := List.mem_map.1 ha
        have := hI.lt e he
        omega
      · intro e he
        simp only [Array.toList_push, List.mem_append, List.mem_singleton] at he
        rcases he with he | rfl
        · have := hI.lt e he; omega
        · simp
  · have hfk : (Instr.findKey kt (.int .i64 (xk : Int)) es.toList).run P w = .ok (some (j, e.val)) w := by simp [Instr.findKey, run_underlying hK, hf]
    have hj' : es[j]? = some e := by rw [← Array.getElem?_toList]; exact hj
    have hks : (Instr.keyThatStays (((es[j]?).map (·.key)).getD (.int .i64 (xk : Int))) (.int .i64 (xk : Int))).run P w = .ok (.int .i64 (xk : Int)) w := by
      have hsb : Instr.sameBits 10000 (.int .i64 (xk : Int)) (.int .i64 (xk : Int)) = true := by unfold Instr.sameBits; simp
      simp only [hj', Option.map_some, Option.getD_some, hke, Instr.keyThatStays, hsb, if_true, Sem.run_pure]
    refine ⟨_, _, N, ?_, hw.set (hw.lt hb) (.map (es.modify j fun a => { a with key := .int .i64 (xk : Int), val := v }) clock), k _ _ ?_⟩
    · simp only [execOp, hx, hy, hz, Instr.mapUpdate, Sem.run_bind, run_underlying hT, Result.andThen, run_getObj hwb rfl, hck, hfk, hks, hset, Sem.run_pure]
    · have hm := modify_keys (v := v) hj
      rw [hke] at hm
      have hmem : xk ∈ xs := by
        have : Value.int .i64 (xk : Int) ∈ ints xs := by
          rw [← hI.keys, ← hke]; exact List.mem_map.2 ⟨e, List.mem_of_getElem? hj, rfl⟩
        obtain ⟨y, hy1, hy2⟩ := List.mem_map.1 this
        rw [← ints_inj hy2]; exact hy1
      rw [ins, if_pos hmem]
      refine ⟨by rw [hm.1]; exact hI.keys, hI.nd, by rw [hm.2]; exact hI.bnd, ?_⟩
      intro a ha
      have : a.born ∈ es.toList.map (·.born) := by rw [← hm.2]; exact List.mem_map.2 ⟨a, ha, rfl⟩
      obtain ⟨e', he', hq⟩ := List.mem_map.1 this
      rw [← hq]; exact hI.lt e' he'

theorem ok_range_map {kt et : TypeId} {es : Array MapEntry} {clock : Nat} (hT : P.underlying t = some (.map kt et)) (hx : ev E x = .map (some b)) (hb : h b = some (.map es clock))
    (k : (∀ b, N ≤ b → h b = none) → K (.pointer (some ⟨N, 0, none⟩)) (hset h N (.mapIter (some b) clock #[] clock)) (N + 1)) : opOk P w0 r ⟨d, .range t x, ty, p, af, g⟩ E h N K := by
  refine ok_of fun w hw => ⟨_, _, _, _, ?_, hw.alloc (.mapIter (some b) clock #[] clock), k (fun _ hb => hw.free hb)⟩
  have := run_range_map (P := P) w t kt et b es clock hT (hw.obj hb)
  simp only [execOp, hx, Sem.run_bind, this, Result.andThen, Sem.run_pure, hw.size]
theorem ok_range_nil {kt et : TypeId} (hT : P.underlying t = some (.map kt et)) (hx : ev E x = .map none)
    (k : (∀ b, N ≤ b → h b = none) → K (.pointer (some ⟨N, 0, none⟩)) (hset h N (.mapIter none 0 #[] 0)) (N + 1)) : opOk P w0 r ⟨d, .range t x, ty, p, af, g⟩ E h N K := by
  refine ok_of fun w hw => ⟨_, _, _, _, ?_, hw.alloc (.mapIter none 0 #[] 0), k (fun _ hb => hw.free hb)⟩
  have := run_range_nilMap (P := P) w t kt et hT
  simp only [execOp, hx, Sem.run_bind, this, Result.andThen, Sem.run_pure, hw.size]
theorem ok_next_nil {a : Nat} {s : Array Nat} {c : Nat} (hx : ev E x = .pointer (some ⟨b, 0, none⟩)) (hb : h b = some (.mapIter none a s c)) (k : K (.tuple #[.bool false]) h N) : opOk P w0 r ⟨d, .next x false, ty, p, af, g⟩ E h N K := by
  refine ok_of fun w hw => ⟨_, _, _, _, ?_, hw, k⟩
  have h1 : (Instr.next (.pointer (some ⟨b, 0, none⟩)) false ty).run P w = .ok (.tuple #[.bool false]) w := by
    simp only [Instr.next, Sem.run_bind, run_getObj (hw.obj hb) rfl, Result.andThen]
    rfl
  simp only [execOp, hx, Sem.run_bind, h1, Result.andThen, Sem.run_pure]
theorem ok_next {bm since last clock : Nat} {seen : Array Nat} {es : Array MapEntry} (hx : ev E x = .pointer (some ⟨b, 0, none⟩)) (hb : h b = some (.mapIter (some bm) since seen last)) (hm : h bm = some (.map es clock)) (hold : ∀ e ∈ es.toList, e.born < since) (hsc : since ≤ last)
    (k0 : (leftOf es seen).size = 0 → K (.tuple #[.bool false]) h N) (k1 : ∀ e ∈ (leftOf es seen).toList, K (.tuple #[.bool true, e.key, e.val]) (hset h b (.mapIter (some bm) since (seen.push e.born) clock)) N) : opOk P w0 r ⟨d, .next x false, ty, p, af, g⟩ E h N K := by
  refine ok_of fun w hw => ?_
  have g1 := run_getObj (P := P) (hw.obj hb) rfl
  have g2 := run_getObj (P := P) (hw.obj hm) rfl
  have hmem : ∀ e ∈ (leftOf es seen).toList, e.born < since := fun e he => hold e (by simp [leftOf] at he ⊢; exact he.1)
  have e1 : (leftOf es seen).filter (fun x => decide (x.born < since)) = leftOf es seen := Array.filter_eq_self.2 (fun x hx => by simpa using hmem x (by simpa using hx))
  have e2 : (leftOf es seen).filter (fun x => decide (x.born ≥ since)) = #[] := by
    rw [Array.filter_eq_empty_iff]
    intro x hx
    have := hmem x (by simpa using hx)
    simp; omega
  by_cases h0 : (leftOf es seen).size = 0
  · have he : leftOf es seen = #[] := Array.eq_empty_of_size_eq_zero h0
    refine ⟨_, w, h, N, ?_, hw, k0 h0⟩
    have h1 : (Instr.next (.pointer (some ⟨b, 0, none⟩)) false ty).run P w = .ok (.tuple #[.bool false]) w := by
      simp only [Instr.next, Sem.run_bind, g1, g2, Result.andThen, next_test_false seen es since last hold hsc, Bool.false_eq_true, if_false]
      rw [show es.filter (fun e => !seen.contains e.born) = leftOf es seen from rfl, e1, e2, he]
      simp [choose, Sem.run, Question.forced]
    simp only [execOp, hx, Sem.run_bind, h1, Result.andThen, Sem.run_pure]
  · have hne : (leftOf es seen).isEmpty = false := by simp [Array.isEmpty, h0]
    have hch : ∃ (j : Nat) (w1 : World), j < (leftOf es seen).size ∧ At w0 h N w1 ∧ (choose (Question.mapNext (leftOf es seen).size)).run P w = .ok j w1 := by
      by_cases hf : (leftOf es seen).size ≤ 1
      · exact ⟨0, w, by omega, hw, by simp [choose, Sem.run, Question.forced, hf]⟩
      · exact ⟨_, w.drew, Nat.mod_lt _ (by omega), hw.drew, by
          simp only [choose, Sem.run, Question.forced, decide_eq_true_eq, hf, if_false, Question.cut]
          rfl⟩
    obtain ⟨j, w1, hj, hw1, hrun⟩ := hch
    have hmj : (leftOf es seen)[j] ∈ (leftOf es seen).toList := by simp
    refine ⟨_, _, _, N, ?_, hw1.set (hw1.lt hb) (.mapIter (some bm) since (seen.push ((leftOf es seen)[j]).born) clock), k1 _ hmj⟩
    have h1 : (Instr.next (.pointer (some ⟨b, 0, none⟩)) false ty).run P w = .ok (.tuple #[.bool true, ((leftOf es seen)[j]).key, ((leftOf es seen)[j]).val]) { w1 with heap := w1.heap.setIfInBounds b (.mapIter (some bm) since (seen.push ((leftOf es seen)[j]).born) clock) } := by
      simp only [Instr.next, Sem.run_bind, g1, g2, Result.andThen, next_test_false seen es since last hold hsc, Bool.false_eq_true, if_false]
      rw [show es.filter (fun e => !seen.contains e.born) = leftOf es seen from rfl, e1, e2]
      simp only [hne, Bool.false_eq_true, if_false, Array.append_empty, Array.empty_append, Array.size_map, hrun, Array.getElem?_map, Array.getElem?_eq_getElem hj, Option.map_some]
      rw [Sem.run_bind, run_setObj (P := P) (hw1.obj hb) rfl]
      rfl
    simp only [execOp, hx, Sem.run_bind, h1, Result.andThen, Sem.run_pure]
theorem ok_entry {bm since clock : Nat} {seen : Array Nat} {es : Array MapEntry} {e : MapEntry} (hx : ev E x = .pointer (some ⟨b, 0, none⟩)) (hb : h b = some (.mapIter (some bm) since (seen.push e.born) clock)) (hm : h bm = some (.map es clock)) (he : e ∈ es.toList) (hn : (es.toList.map (·.born)).Nodup)
    (k : K (.tuple #[e.key, e.val]) h N) : opOk P w0 r ⟨d, .entry x, ty, p, af, g⟩ E h N K := by
  refine ok_of fun w hw => ⟨_, _, _, _, ?_, hw, k⟩
  have hf : es.find? (·.born == e.born) = some e := by rw [← Array.find?_toList]; exact find_born e es.toList hn he
  have h1 : (Instr.entry (.pointer (some ⟨b, 0, none⟩))).run P w = .ok (.tuple #[e.key, e.val]) w := by
    simp only [Instr.entry, Sem.run_bind, run_getObj (hw.obj hb) rfl, run_getObj (hw.obj hm) rfl, Result.andThen, Array.back?_push, bne_self_eq_false, Bool.false_eq_true, if_false, hf, Sem.run_pure]
  simp only [execOp, hx, Sem.run_bind, h1, Result.andThen, Sem.run_pure]
/-- A map against nil. -/
theorem ok_eql_nilmap {ao : Option Nat} {t' kt et : TypeId} (hT : P.underlying t = some (.map kt et)) (hx : ev E x = .map ao) (hy : ev E y = .map none) (k : K (.bool ao.isNone) h N) : opOk P w0 r ⟨d, .binOp .eql t x y t', ty, p, af, g⟩ E h N K := by
  refine ok_val (v := .bool ao.isNone) (fun w => ?_) k
  have h0 : (Op.equal t (.map ao) (.map none)).run P w = .ok ao.isNone w := by
    have h1 : ∀ k : Nat, (Op.equalIn (k + 1) t (.map ao) (.map none)).run P w = .ok ao.isNone w := fun k => by
      cases ao <;> simp [Op.equalIn, run_underlying hT]
    exact h1 9999
  have h1 : (binOp .eql t (.map ao) (.map none)).run P w = .ok (.bool ao.isNone) w := by
    simp only [binOp, Sem.run_bind, h0, Result.andThen, Sem.run_pure]
  have h2 : (eqGuard .eql t x y (.map ao) (.map none)).run P w = .ok () w := rfl
  simp only [execOp, hx, hy, Sem.run_bind, h1, h2, Result.andThen, Sem.run_pure]
end
end Sx
end Go.Proofs.YbulkcsqkGreat
