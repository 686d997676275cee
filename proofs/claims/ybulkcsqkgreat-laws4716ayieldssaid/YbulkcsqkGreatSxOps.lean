import Derived.Test.YbulkcsqkGreatSxCore
import Derived.RangeFuncLeaves
namespace Go.Proofs.YbulkcsqkGreat
namespace Sx

/-! ### The heap as a function -/
def hset (h : Hp) (b : Nat) (o : Obj) : Hp := fun c => if c = b then some o else h c
theorem hset_same (h : Hp) (b : Nat) (o : Obj) : hset h b o b = some o := by simp [hset]
theorem lt_of_free {h : Hp} {N b : Nat} {o : Obj} (hf : ∀ b, N ≤ b → h b = none) (hb : h b = some o) : b < N := by
  rcases Nat.lt_or_ge b N with h1 | h1
  · exact h1
  · rw [hf b h1] at hb; cases hb
theorem hset_ne (h : Hp) {b c : Nat} (o : Obj) (hne : c ≠ b) : hset h b o c = h c := by simp [hset, hne]

section
variable {w0 w : World} {h : Hp} {N : Nat}
theorem At.lt (ha : At w0 h N w) {b : Nat} {o : Obj} (hb : h b = some o) : b < N := by
  rw [← ha.heap, Array.getElem?_eq_some_iff] at hb
  rw [← ha.size]; exact hb.1
theorem At.free (ha : At w0 h N w) {b : Nat} (hb : N ≤ b) : h b = none := by
  rw [← ha.heap, Array.getElem?_eq_none]
  rw [ha.size]; exact hb
theorem At.push (ha : At w0 h N w) (o : Obj) : At w0 (hset h N o) (N + 1) { w with heap := w.heap.push o } := by
  refine ⟨fun b => ?_, by simp [ha.size], ha.tape, ha.os, ha.output, ha.dr⟩
  simp only [hset, Array.getElem?_push, ha.size, ha.heap]
theorem At.alloc (ha : At w0 h N w) (o : Obj) : At w0 (hset h N o) (N + 1) (w.alloc o) := ha.push o
theorem At.set (ha : At w0 h N w) {b : Nat} (hb : b < N) (o : Obj) : At w0 (hset h b o) N { w with heap := w.heap.setIfInBounds b o } := by
  refine ⟨fun c => ?_, by simp [ha.size], ha.tape, ha.os, ha.output, ha.dr⟩
  simp only [hset]
  by_cases e : c = b
  · subst e; simp [ha.size, hb]
  · simp only [e, if_false]; rw [Array.getElem?_setIfInBounds_ne (fun x => e x.symm)]; exact ha.heap c
theorem At.drew (ha : At w0 h N w) : At w0 h N { w with drawn := w.drawn + 1 } := ⟨ha.heap, ha.size, ha.tape, ha.os, ha.output, Nat.le_succ_of_le ha.dr⟩
theorem At.cell (ha : At w0 h N w) {b o : Nat} {cs : Array Value} {t : TypeId} {fz : Nat × Nat} (hb : h b = some (.cells cs t fz)) : w.cell? ⟨b, o, none⟩ = cs[o]? := by
  simp [World.cell?, ha.heap, hb]
theorem At.thaw (ha : At w0 h N w) {b o : Nat} {cs : Array Value} {t : TypeId} (hb : h b = some (.cells cs t (0, 0))) : w.frozen? ⟨b, o, none⟩ = false := by
  simp [World.frozen?, ha.heap, hb]
theorem At.setCell (ha : At w0 h N w) {b o : Nat} {cs : Array Value} {t : TypeId} {fz : Nat × Nat} (hb : h b = some (.cells cs t fz)) (v : Value) :
    At w0 (hset h b (.cells (cs.setIfInBounds o v) t fz)) N (w.setCell ⟨b, o, none⟩ v) := by
  refine ⟨fun c => ?_, by simp [World.setCell, ha.size], ha.tape, ha.os, ha.output, ha.dr⟩
  have hlt := ha.lt hb
  simp only [hset, World.setCell]
  by_cases e : c = b
  · subst e
    have h1 : w.heap[c]? = some (.cells cs t fz) := by rw [ha.heap, hb]
    rw [if_pos rfl, Array.getElem?_modify, h1]
    simp
  · rw [if_neg e, Array.getElem?_modify, if_neg (fun x => e x.symm), ha.heap]
end

/-- Cells laid into a row from place o on, one by one. -/
def layI (cs : Array Value) : Nat → List Value → Array Value
  | _, [] => cs
  | o, v :: vs => layI (cs.setIfInBounds o v) (o + 1) vs
/-- The same, in one. -/
def lay (cs : Array Value) (o : Nat) (vs : List Value) : Array Value := (cs.toList.take o ++ (vs ++ cs.toList.drop (o + vs.length))).toArray
theorem layI_toList (vs : List Value) : ∀ (cs : Array Value) (o : Nat), o + vs.length ≤ cs.size → (layI cs o vs).toList = cs.toList.take o ++ (vs ++ cs.toList.drop (o + vs.length)) := by
  induction vs with
  | nil => intro cs o h; simp [layI]
  | cons v vs ih =>
    intro cs o h
    simp only [List.length_cons] at h
    simp only [layI]
    rw [ih _ _ (by simp; omega)]
    have hlt : o < cs.toList.length := by simp; omega
    rw [Array.toList_setIfInBounds, List.set_eq_take_append_cons_drop, if_pos hlt]
    have e1 : (cs.toList.take o).length = o := by simp; omega
    have e2 : cs.toList.take o ++ v :: cs.toList.drop (o + 1) = (cs.toList.take o ++ [v]) ++ cs.toList.drop (o + 1) := by simp
    rw [e2, List.take_left' (by simp; omega), List.drop_append, List.drop_of_length_le (by simp; omega)]
    simp only [List.nil_append, List.drop_drop, List.length_append, List.length_cons, List.length_nil, e1]
    simp only [List.append_assoc, List.cons_append, List.nil_append]
    congr 3
    · congr 1; omega
theorem lay_eq (cs : Array Value) (o : Nat) (vs : List Value) (h : o + vs.length ≤ cs.size) : layI cs o vs = lay cs o vs := by
  apply Array.ext'; rw [layI_toList vs cs o h]; rfl
theorem lay_size (cs : Array Value) (o : Nat) (vs : List Value) (h : o + vs.length ≤ cs.size) : (lay cs o vs).size = cs.size := by
  simp [lay]; omega
/-- One cell turned. -/
def setA (cs : Array Value) (o : Nat) (v : Value) : Array Value := (cs.toList.set o v).toArray
theorem setA_eq (cs : Array Value) (o : Nat) (v : Value) : setA cs o v = cs.setIfInBounds o v := by
  apply Array.ext'; simp [setA]
theorem lay_one (cs : Array Value) (o : Nat) (v : Value) (h : o < cs.size) : lay cs o [v] = setA cs o v := by
  rw [← lay_eq cs o [v] (by simp; omega), setA_eq]; rfl
@[simp] theorem setA_size (cs : Array Value) (o : Nat) (v : Value) : (setA cs o v).size = cs.size := by simp [setA]
theorem setA_same (cs : Array Value) {o : Nat} (v : Value) (h : o < cs.size) : (setA cs o v)[o]? = some v := by rw [setA_eq]; simp [h]
theorem setA_ne (cs : Array Value) {o i : Nat} (v : Value) (h : o ≠ i) : (setA cs o v)[i]? = cs[i]? := by rw [setA_eq, Array.getElem?_setIfInBounds_ne h]

def isOne : Value → Bool
  | .agg _ => false
  | .tuple _ => false
  | _ => true

section
variable {P : Program} {w0 : World} {r : Option Nat} {E : Env} {h : Hp} {N : Nat} {K : Value → Hp → Nat → Prop}
variable {d : Option Tmp} {ty : TypeId} {p : String} {af : Array Edge} {g : Option (Nat × Bool)} {x y z : Operand} {t s : TypeId} {op : Op} {b : Nat} {cs : Array Value} {te : TypeId} {fz : Nat × Nat}

theorem hset_hset (h : Hp) (b : Nat) (o o' : Obj) : hset (hset h b o) b o' = hset h b o' := by
  funext c
  simp only [hset]
  split <;> rfl

theorem run_storeCells (vs : List Value) : ∀ (w : World) (h : Hp) (b o i : Nat) (cs : Array Value) (t : TypeId), At w0 h N w → h b = some (.cells cs t (0, 0)) → o + i + vs.length ≤ cs.size → (∀ v ∈ vs, isOne v = true) →
    ∃ w', (storeCells ⟨b, o, none⟩ vs i).run P w = .ok () w' ∧ At w0 (hset h b (.cells (layI cs (o + i) vs) t (0, 0))) N w' := by
  induction vs with
  | nil =>
    intro w h b o i cs t ha hb _ _
    refine ⟨w, rfl, ?_⟩
    have : hset h b (.cells (layI cs (o + i) []) t (0, 0)) = h := by
      funext c
      simp only [hset, layI]
      split
      · rename_i e; rw [e, hb]
      · rfl
    rw [this]; exact ha
  | cons v vs ih =>
    intro w h b o i cs t ha hb hsz hone
    have hs1 := ha.setCell (o := o + i) hb v
    simp only [List.length_cons] at hsz
    obtain ⟨w', hr, ha'⟩ := ih _ _ b o (i + 1) (cs.setIfInBounds (o + i) v) t hs1 (hset_same _ _ _) (by simp; omega) (fun u hu => hone u (by simp [hu]))
    refine ⟨w', ?_, ?_⟩
    · have e1 : ({ block := b, off := o, spot := none } : Addr).add i = ⟨b, o + i, none⟩ := by
        unfold Addr.add
        split
        · rename_i e; subst e; rfl
        · rfl
      have hcell : w.cell? ⟨b, o + i, none⟩ = cs[o + i]? := ha.cell hb
      have hlt : o + i < cs.size := by omega
      rw [Array.getElem?_eq_getElem hlt] at hcell
      have hth := ha.thaw (o := o + i) hb
      have h1 := hone v (by simp)
      have hst : (store ⟨b, o + i, none⟩ v : Sem Unit).run P w = .ok () (w.setCell ⟨b, o + i, none⟩ v) := by
        unfold store
        cases v <;> first | (simp [isOne] at h1; done) | simp [Sem.run, hcell, hth]
      unfold storeCells
      rw [e1]
      show (Sem.bind _ _).run P w = _
      rw [show (Sem.bind (store ⟨b, o + i, none⟩ v) (fun _ => storeCells ⟨b, o, none⟩ vs (i + 1))).run P w = ((store ⟨b, o + i, none⟩ v).run P w).andThen (fun a w' => ((fun _ => storeCells ⟨b, o, none⟩ vs (i + 1)) a).run P w') from Sem.run_bind _ _ _ _, hst]
      exact hr
    · rw [hset_hset] at ha'
      exact ha'

/-! ### Operations -/
theorem ok_of (hr : ∀ w, At w0 h N w → ∃ v w' h' N', (execOp (ev E) ⟨d, op, ty, p, af, g⟩).run P w = .ok (.value v) w' ∧ At w0 h' N' w' ∧ K v h' N') : opOk P w0 r ⟨d, op, ty, p, af, g⟩ E h N K := by
  intro w hw
  obtain ⟨v, w', h', N', he, ha, k⟩ := hr w hw
  rw [he]; exact ⟨h', N', ha, k⟩
theorem ok_of_skip (hr : ∀ w, At w0 h N w → ∃ w' h' N', (execOp (ev E) ⟨d, op, ty, p, af, g⟩).run P w = .ok .skip w' ∧ At w0 h' N' w' ∧ K undef h' N') : opOk P w0 r ⟨d, op, ty, p, af, g⟩ E h N K := by
  intro w hw
  obtain ⟨w', h', N', he, ha, k⟩ := hr w hw
  rw [he]; exact ⟨h', N', ha, k⟩
theorem ok_val {v : Value} (hr : ∀ w, (execOp (ev E) ⟨d, op, ty, p, af, g⟩).run P w = .ok (.value v) w) (k : K v h N) : opOk P w0 r ⟨d, op, ty, p, af, g⟩ E h N K :=
  ok_of fun w hw => ⟨v, w, h, N, hr w, hw, k⟩

theorem ok_move {v : Value} (hx : ev E x = v) (k : K v h N) : opOk P w0 r ⟨d, .move x, ty, p, af, g⟩ E h N K :=
  ok_val (fun w => by simp [execOp, hx]) k
theorem ok_assign {v : Value} (hx : ev E x = v) (k : K v h N) : opOk P w0 r ⟨d, .assign x, ty, p, af, g⟩ E h N K :=
  ok_val (fun w => by simp [execOp, hx]) k
theorem ok_pick_true {v : Value} (hx : ev E x = .bool true) (hy : ev E y = v) (k : K v h N) : opOk P w0 r ⟨d, .pick x y z, ty, p, af, g⟩ E h N K :=
  ok_val (fun w => by simp [execOp, hx, hy, go_sem]) k
theorem ok_pick_false {v : Value} (hx : ev E x = .bool false) (hz : ev E z = v) (k : K v h N) : opOk P w0 r ⟨d, .pick x y z, ty, p, af, g⟩ E h N K :=
  ok_val (fun w => by simp [execOp, hx, hz, go_sem]) k
theorem ok_nilCheck_ptr {a : Addr} (hx : ev E x = .pointer (some a)) (k : K (.pointer (some a)) h N) : opOk P w0 r ⟨d, .nilCheck x, ty, p, af, g⟩ E h N K :=
  ok_val (fun w => by simp [execOp, hx]) k

/-- What a field's place is. -/
def fldOff (P : Program) (s : TypeId) (f : Nat) : Option Nat :=
  match P.underlying s with
  | some (.struct fs) => match fs[f]? with
    | some fl => match P.info? fl.type with
      | some i => if i.size = 0 then none else some fl.offset
      | none => none
    | none => none
  | _ => none
theorem fldOff_spec {f off : Nat} (hf : fldOff P s f = some off) : ∃ fs fl i, P.underlying s = some (.struct fs) ∧ fs[f]? = some fl ∧ P.info? fl.type = some i ∧ i.size ≠ 0 ∧ fl.offset = off := by
  unfold fldOff at hf
  split at hf <;> try (cases hf; done)
  rename_i fs hu
  split at hf <;> try (cases hf; done)
  rename_i fl hfl
  split at hf <;> try (cases hf; done)
  rename_i i hi
  split at hf <;> try (cases hf; done)
  rename_i hz
  cases hf
  exact ⟨fs, fl, i, hu, hfl, hi, hz, rfl⟩
theorem ok_fieldAddr {f off b o : Nat} (hf : fldOff P s f = some off) (hx : ev E x = .pointer (some ⟨b, o, none⟩)) (k : K (.pointer (some ⟨b, o + off, none⟩)) h N) :
    opOk P w0 r ⟨d, .fieldAddr s x f, ty, p, af, g⟩ E h N K := by
  obtain ⟨fs, fl, i, hu, hfl, hi, hz, rfl⟩ := fldOff_spec hf
  exact ok_val (fun w => by simp [execOp, Instr.fieldAt, go_sem, run_underlying hu, hfl, sizeOf, typeInfo, hi, hz, hx]) k

def aggB : TypeDesc → Bool
  | .struct _ => true
  | .array _ _ => true
  | _ => false
/-- What is known of a type: is it a struct or an array; its cells; its bytes; its zero value. -/
structure Ty (P : Program) (t : TypeId) (ag : Bool) (n bytes : Nat) (z : Value) : Prop where
  und : (P.underlying t).map aggB = some ag
  inf : (P.info? t).map (fun i => (i.size, i.bytes, i.zero)) = some (n, bytes, some z)
theorem Ty.info {ag : Bool} {n bytes : Nat} {z : Value} (hT : Ty P t ag n bytes z) : ∃ i, P.info? t = some i ∧ i.size = n ∧ i.bytes = bytes ∧ i.zero = some z := by
  have := hT.inf
  cases hi : P.info? t with
  | none => rw [hi] at this; cases this
  | some i => rw [hi] at this; simp at this; exact ⟨i, rfl, this⟩
theorem run_isAgg {ag : Bool} (hu : (P.underlying t).map aggB = some ag) (w : World) : (isAgg t).run P w = .ok ag w := by
  cases hx : P.underlying t with
  | none => rw [hx] at hu; cases hu
  | some u =>
    rw [hx] at hu
    simp only [Option.map_some, Option.some.injEq] at hu
    subst hu
    simp only [isAgg, Sem.run_bind, run_underlying hx, Result.andThen]
    cases u <;> rfl
theorem run_sizeOf {ag : Bool} {n bytes : Nat} {zv : Value} (hT : Ty P t ag n bytes zv) (w : World) : (sizeOf t).run P w = .ok n w := by
  obtain ⟨i, hi, hn, _, _⟩ := hT.info
  simp [sizeOf, typeInfo, hi, hn, go_sem]
theorem run_zeroValue {ag : Bool} {n bytes : Nat} {zv : Value} (hT : Ty P t ag n bytes zv) (w : World) : (zeroValue t).run P w = .ok zv w := by
  obtain ⟨i, hi, _, _, hz⟩ := hT.info
  simp [zeroValue, typeInfo, hi, hz, go_sem]

theorem ok_load {n bytes b o : Nat} {zv v : Value} {cs : Array Value} {te : TypeId} {fz : Nat × Nat} (hT : Ty P t false n bytes zv) (hx : ev E x = .pointer (some ⟨b, o, none⟩))
    (hb : h b = some (.cells cs te fz)) (hv : cs[o]? = some v) (k : K v h N) : opOk P w0 r ⟨d, .load t x, ty, p, af, g⟩ E h N K :=
  ok_of fun w hw => ⟨v, w, h, N, by
    have hc := hw.cell (o := o) hb
    rw [hv] at hc
    simp [execOp, Instr.loadAt, loadVar, go_sem, run_isAgg hT.und, hx, hc], hw, k⟩

theorem run_loadCells (hb : h b = some (.cells cs te fz)) : ∀ (n : Nat) (w : World) (o i : Nat) (acc : Array Value), At w0 h N w → o + i + n ≤ cs.size →
    (loadCellsFrom ⟨b, o, none⟩ i n acc).run P w = .ok (acc ++ cs.extract (o + i) (o + i + n)) w := by
  intro n
  induction n with
  | zero => intro w o i acc ha hle; simp [loadCellsFrom, go_sem]; omega
  | succ n ih =>
    intro w o i acc ha hle
    have e1 : ({ block := b, off := o, spot := none } : Addr).add i = ⟨b, o + i, none⟩ := by
      unfold Addr.add
      split
      · rename_i e; subst e; rfl
      · rfl
    have hc : w.cell? ⟨b, o + i, none⟩ = cs[o + i]? := ha.cell hb
    have hlt : o + i < cs.size := by omega
    rw [Array.getElem?_eq_getElem hlt] at hc
    have hl : (load ⟨b, o + i, none⟩ : Sem Value).run P w = .ok cs[o + i] w := by simp [load, Sem.run, hc]
    unfold loadCellsFrom
    rw [e1]
    simp only [Sem.run_bind, hl, Result.andThen]
    rw [ih w o (i + 1) _ ha (by omega)]
    congr 1
    apply Array.ext'
    simp only [Array.toList_append, Array.toList_push, Array.toList_extract, List.append_assoc]
    congr 1
    rw [List.extract_eq_take_drop, List.extract_eq_take_drop, show o + i + (n + 1) - (o + i) = n + 1 from by omega, show o + (i + 1) + n - (o + (i + 1)) = n from by omega]
    rw [List.drop_eq_getElem_cons (by simpa using hlt : o + i < cs.toList.length)]
    simp [Nat.add_assoc]

theorem extract_list (cs : Array Value) (o n : Nat) : cs.extract o (o + n) = ((cs.toList.drop o).take n).toArray := by
  apply Array.ext'
  rw [Array.toList_extract, List.extract_eq_take_drop, show o + n - o = n from by omega]
theorem ok_loadAgg {n bytes o : Nat} {zv : Value} {vs : List Value} (hT : Ty P t true n bytes zv) (hx : ev E x = .pointer (some ⟨b, o, none⟩))
    (hb : h b = some (.cells cs te fz)) (hn : o + n ≤ cs.size) (hv : (cs.toList.drop o).take n = vs) (k : K (.agg vs.toArray) h N) : opOk P w0 r ⟨d, .load t x, ty, p, af, g⟩ E h N K :=
  ok_of fun w hw => ⟨.agg vs.toArray, w, h, N, by
    have hl := run_loadCells (P := P) hb n w o 0 #[] hw (by omega)
    simp only [Nat.add_zero, extract_list, hv, Array.empty_append] at hl
    simp [execOp, Instr.loadAt, loadVar, go_sem, run_isAgg hT.und, hx, run_sizeOf hT, loadCells, hl], hw, k⟩

theorem ok_storeL {ag : Bool} {n bytes o : Nat} {zv v : Value} {vs : List Value} (hT : Ty P t ag n bytes zv) (hx : ev E x = .pointer (some ⟨b, o, none⟩)) (hy : ev E y = v) (hv : v.cells.toList = vs) (hl : vs.length = n) (h1 : vs.all isOne = true)
    (hb : h b = some (.cells cs te (0, 0))) (hn : o + n ≤ cs.size) (k : K undef (hset h b (.cells (lay cs o vs) te (0, 0))) N) : opOk P w0 r ⟨d, .store t x y, ty, p, af, g⟩ E h N K :=
  ok_of_skip fun w hw => by
    obtain ⟨w', hr, ha⟩ := run_storeCells (P := P) vs w h b o 0 cs te hw hb (by omega) (List.all_eq_true.1 h1)
    rw [Nat.add_zero, lay_eq cs o vs (by omega)] at ha
    refine ⟨w', _, N, ?_, ha, k⟩
    have hsz : v.cells.size = n := by rw [← hl, ← hv]; simp
    have h2 : (storeVar t ⟨b, o, none⟩ v).run P w = .ok () w' := by
      unfold storeVar
      rw [Sem.run_bind, run_sizeOf hT, Result.andThen, if_neg (by rw [hsz]; exact fun h => h rfl), hv]
      exact hr
    simp only [execOp, Instr.storeAt, Instr.sureAddr, hx, hy, Sem.run_bind, Sem.run_pure, Result.andThen, h2]
theorem cells_one {v : Value} (h1 : isOne v = true) : v.cells = #[v] := by cases v <;> simp_all [isOne, Value.cells]
theorem ok_store {ag : Bool} {bytes o : Nat} {zv v : Value} (hT : Ty P t ag 1 bytes zv) (hx : ev E x = .pointer (some ⟨b, o, none⟩)) (hy : ev E y = v) (h1 : isOne v = true)
    (hb : h b = some (.cells cs te (0, 0))) (hn : o < cs.size) (k : K undef (hset h b (.cells (setA cs o v) te (0, 0))) N) : opOk P w0 r ⟨d, .store t x y, ty, p, af, g⟩ E h N K :=
  ok_storeL hT hx hy (vs := [v]) (by rw [cells_one h1]) rfl (by simp [h1]) hb (by omega) (by rw [lay_one cs o v hn]; exact k)

theorem add_none (b o n : Nat) : ({ block := b, off := o, spot := none } : Addr).add n = ⟨b, o + n, none⟩ := by
  unfold Addr.add
  split
  · rename_i e; subst e; rfl
  · rfl

theorem ok_indexAddr {e : TypeId} {ue : Bool} {sz sbytes o len cap : Nat} {se : Value} {i : Int} {ik : IntKind} (hT : P.underlying t = some (.slice e)) (hE : Ty P e ue sz sbytes se)
    (hx : ev E x = .slice (some ⟨b, o, none⟩) len cap) (hy : ev E y = .int ik i) (h0 : 0 ≤ i) (hlt : i < len) {off : Nat} (hoff : o + i.toNat * sz = off) (k : K (.pointer (some ⟨b, off, none⟩)) h N) : opOk P w0 r ⟨d, .indexAddr t x y, ty, p, af, g⟩ E h N K :=
  ok_val (fun w => by simp [execOp, Instr.indexAt, go_sem, run_underlying hT, hx, hy, h0, hlt, run_sizeOf hE, add_none, hoff]) k
theorem ok_indexAddrA {e : TypeId} {ue : Bool} {sz sbytes o len : Nat} {se : Value} {i : Int} {ik : IntKind} (hT : P.underlying t = some (.array len e)) (hE : Ty P e ue sz sbytes se)
    (hx : ev E x = .pointer (some ⟨b, o, none⟩)) (hy : ev E y = .int ik i) (h0 : 0 ≤ i) (hlt : i < len) {off : Nat} (hoff : o + i.toNat * sz = off) (k : K (.pointer (some ⟨b, off, none⟩)) h N) : opOk P w0 r ⟨d, .indexAddr t x y, ty, p, af, g⟩ E h N K :=
  ok_val (fun w => by simp [execOp, Instr.indexAt, go_sem, run_underlying hT, hx, hy, h0, hlt, run_sizeOf hE, add_none, hoff]) k

/-! #### Numbers -/
theorem wrap_i64 {n : Int} (h1 : -9223372036854775808 ≤ n) (h2 : n ≤ 9223372036854775807) : IntKind.wrap .i64 n = n := by
  rw [IntKind.wrap_i64]; omega
theorem wrap_u64 {n : Int} (h1 : 0 ≤ n) (h2 : n < 18446744073709551616) : IntKind.wrap .u64 n = n := by
  rw [IntKind.wrap_u64]; omega
section
variable {t' : TypeId} {a c : Int}
theorem ok_add (hx : ev E x = .int .i64 a) (hy : ev E y = .int .i64 c) (h1 : -9223372036854775808 ≤ a + c) (h2 : a + c ≤ 9223372036854775807) (k : K (.int .i64 (a + c)) h N) : opOk P w0 r ⟨d, .binOp .add t x y t', ty, p, af, g⟩ E h N K :=
  ok_val (fun w => by simp [execOp, hx, hy, eqGuard, binOp, Op.intArith, wrap_i64 h1 h2, go_sem]) k
theorem ok_sub (hx : ev E x = .int .i64 a) (hy : ev E y = .int .i64 c) (h1 : -9223372036854775808 ≤ a - c) (h2 : a - c ≤ 9223372036854775807) (k : K (.int .i64 (a - c)) h N) : opOk P w0 r ⟨d, .binOp .sub t x y t', ty, p, af, g⟩ E h N K :=
  ok_val (fun w => by simp [execOp, hx, hy, eqGuard, binOp, Op.intArith, wrap_i64 h1 h2, go_sem]) k
theorem ok_mul (hx : ev E x = .int .i64 a) (hy : ev E y = .int .i64 c) (h1 : -9223372036854775808 ≤ a * c) (h2 : a * c ≤ 9223372036854775807) (k : K (.int .i64 (a * c)) h N) : opOk P w0 r ⟨d, .binOp .mul t x y t', ty, p, af, g⟩ E h N K :=
  ok_val (fun w => by simp [execOp, hx, hy, eqGuard, binOp, Op.intArith, wrap_i64 h1 h2, go_sem]) k
/-- '/' and '%' of two numbers that are not negative. -/
theorem ok_quo (hx : ev E x = .int .i64 a) (hy : ev E y = .int .i64 c) (h1 : 0 ≤ a) (h2 : 0 < c) (h3 : a ≤ 9223372036854775807) (k : K (.int .i64 (a / c)) h N) : opOk P w0 r ⟨d, .binOp .quo t x y t', ty, p, af, g⟩ E h N K := by
  have e1 : a.tdiv c = a / c := Int.tdiv_eq_ediv_of_nonneg h1
  have e2 : a / c ≤ a := Int.ediv_le_self _ h1
  have e3 : 0 ≤ a / c := Int.ediv_nonneg h1 (by omega)
  exact ok_val (fun w => by
    have : ¬ c = 0 := by omega
    simp [execOp, hx, hy, eqGuard, binOp, Op.intDiv, this, e1, wrap_i64 (by omega : -9223372036854775808 ≤ a / c) (by omega), go_sem]) k
theorem ok_rem (hx : ev E x = .int .i64 a) (hy : ev E y = .int .i64 c) (h1 : 0 ≤ a) (h2 : 0 < c) (k : K (.int .i64 (a % c)) h N) : opOk P w0 r ⟨d, .binOp .rem t x y t', ty, p, af, g⟩ E h N K := by
  have e1 : a.tmod c = a % c := Int.tmod_eq_emod_of_nonneg h1
  exact ok_val (fun w => by
    have : ¬ c = 0 := by omega
    simp [execOp, hx, hy, eqGuard, binOp, Op.intDiv, this, e1, go_sem]) k
section
variable {ik : IntKind}
theorem ok_lss (hx : ev E x = .int ik a) (hy : ev E y = .int ik c) (k : K (.bool (decide (a < c))) h N) : opOk P w0 r ⟨d, .binOp .lss t x y t', ty, p, af, g⟩ E h N K :=
  ok_val (fun w => by simp [execOp, hx, hy, eqGuard, binOp, Op.intCmp, go_sem]) k
theorem ok_leq (hx : ev E x = .int ik a) (hy : ev E y = .int ik c) (k : K (.bool (decide (a ≤ c))) h N) : opOk P w0 r ⟨d, .binOp .leq t x y t', ty, p, af, g⟩ E h N K :=
  ok_val (fun w => by simp [execOp, hx, hy, eqGuard, binOp, Op.intCmp, go_sem]) k
theorem ok_gtr (hx : ev E x = .int ik a) (hy : ev E y = .int ik c) (k : K (.bool (decide (c < a))) h N) : opOk P w0 r ⟨d, .binOp .gtr t x y t', ty, p, af, g⟩ E h N K :=
  ok_val (fun w => by simp [execOp, hx, hy, eqGuard, binOp, Op.intCmp, go_sem]) k
theorem ok_geq (hx : ev E x = .int ik a) (hy : ev E y = .int ik c) (k : K (.bool (decide (c ≤ a))) h N) : opOk P w0 r ⟨d, .binOp .geq t x y t', ty, p, af, g⟩ E h N K :=
  ok_val (fun w => by simp [execOp, hx, hy, eqGuard, binOp, Op.intCmp, go_sem]) k
theorem ok_eql (hx : ev E x = .int ik a) (hy : ev E y = .int ik c) (k : K (.bool (decide (a = c))) h N) : opOk P w0 r ⟨d, .binOp .eql t x y t', ty, p, af, g⟩ E h N K :=
  ok_val (v := .bool (decide (a = c))) (fun w => by
    have : (a == c) = decide (a = c) := by by_cases e : a = c <;> simp [e]
    simp [execOp, hx, hy, eqGuard, binOp, Op.intCmp, this, go_sem]) k
theorem ok_neq (hx : ev E x = .int ik a) (hy : ev E y = .int ik c) (k : K (.bool (decide (a ≠ c))) h N) : opOk P w0 r ⟨d, .binOp .neq t x y t', ty, p, af, g⟩ E h N K :=
  ok_val (v := .bool (decide (a ≠ c))) (fun w => by
    have : (a != c) = decide (a ≠ c) := by by_cases e : a = c <;> simp [e]
    simp [execOp, hx, hy, eqGuard, binOp, Op.intCmp, this, go_sem]) k
theorem ok_lss_t (hx : ev E x = .int ik a) (hy : ev E y = .int ik c) (hc : a < c) (k : K (.bool true) h N) : opOk P w0 r ⟨d, .binOp .lss t x y t', ty, p, af, g⟩ E h N K :=
  ok_lss hx hy (by rw [decide_eq_true hc]; exact k)
theorem ok_lss_f (hx : ev E x = .int ik a) (hy : ev E y = .int ik c) (hc : ¬ (a < c)) (k : K (.bool false) h N) : opOk P w0 r ⟨d, .binOp .lss t x y t', ty, p, af, g⟩ E h N K :=
  ok_lss hx hy (by rw [decide_eq_false hc]; exact k)
theorem ok_leq_t (hx : ev E x = .int ik a) (hy : ev E y = .int ik c) (hc : a ≤ c) (k : K (.bool true) h N) : opOk P w0 r ⟨d, .binOp .leq t x y t', ty, p, af, g⟩ E h N K :=
  ok_leq hx hy (by rw [decide_eq_true hc]; exact k)
theorem ok_leq_f (hx : ev E x = .int ik a) (hy : ev E y = .int ik c) (hc : ¬ (a ≤ c)) (k : K (.bool false) h N) : opOk P w0 r ⟨d, .binOp .leq t x y t', ty, p, af, g⟩ E h N K :=
  ok_leq hx hy (by rw [decide_eq_false hc]; exact k)
theorem ok_gtr_t (hx : ev E x = .int ik a) (hy : ev E y = .int ik c) (hc : c < a) (k : K (.bool true) h N) : opOk P w0 r ⟨d, .binOp .gtr t x y t', ty, p, af, g⟩ E h N K :=
  ok_gtr hx hy (by rw [decide_eq_true hc]; exact k)
theorem ok_gtr_f (hx : ev E x = .int ik a) (hy : ev E y = .int ik c) (hc : ¬ (c < a)) (k : K (.bool false) h N) : opOk P w0 r ⟨d, .binOp .gtr t x y t', ty, p, af, g⟩ E h N K :=
  ok_gtr hx hy (by rw [decide_eq_false hc]; exact k)
theorem ok_geq_t (hx : ev E x = .int ik a) (hy : ev E y = .int ik c) (hc : c ≤ a) (k : K (.bool true) h N) : opOk P w0 r ⟨d, .binOp .geq t x y t', ty, p, af, g⟩ E h N K :=
  ok_geq hx hy (by rw [decide_eq_true hc]; exact k)
theorem ok_geq_f (hx : ev E x = .int ik a) (hy : ev E y = .int ik c) (hc : ¬ (c ≤ a)) (k : K (.bool false) h N) : opOk P w0 r ⟨d, .binOp .geq t x y t', ty, p, af, g⟩ E h N K :=
  ok_geq hx hy (by rw [decide_eq_false hc]; exact k)
theorem ok_eql_t (hx : ev E x = .int ik a) (hy : ev E y = .int ik c) (hc : a = c) (k : K (.bool true) h N) : opOk P w0 r ⟨d, .binOp .eql t x y t', ty, p, af, g⟩ E h N K :=
  ok_eql hx hy (by rw [decide_eq_true hc]; exact k)
theorem ok_eql_f (hx : ev E x = .int ik a) (hy : ev E y = .int ik c) (hc : ¬ (a = c)) (k : K (.bool false) h N) : opOk P w0 r ⟨d, .binOp .eql t x y t', ty, p, af, g⟩ E h N K :=
  ok_eql hx hy (by rw [decide_eq_false hc]; exact k)
theorem ok_neq_t (hx : ev E x = .int ik a) (hy : ev E y = .int ik c) (hc : a ≠ c) (k : K (.bool true) h N) : opOk P w0 r ⟨d, .binOp .neq t x y t', ty, p, af, g⟩ E h N K :=
  ok_neq hx hy (by rw [decide_eq_true hc]; exact k)
theorem ok_neq_f (hx : ev E x = .int ik a) (hy : ev E y = .int ik c) (hc : ¬ (a ≠ c)) (k : K (.bool false) h N) : opOk P w0 r ⟨d, .binOp .neq t x y t', ty, p, af, g⟩ E h N K :=
  ok_neq hx hy (by rw [decide_eq_false hc]; exact k)
theorem ok_convert {ik' : IntKind} {us : TypeDesc} (hs : P.underlying s = some us) (ht : P.underlying t = some (.int ik')) (hx : ev E x = .int ik a) (hw : IntKind.wrap ik' a = a) (k : K (.int ik' a) h N) : opOk P w0 r ⟨d, .convert s t x, ty, p, af, g⟩ E h N K :=
  ok_val (fun w => by simp [execOp, hx, convert, run_underlying hs, run_underlying ht, Conv.intToInt, hw, go_sem]) k
end
theorem ok_not {bb : Bool} (hx : ev E x = .bool bb) (k : K (.bool (!bb)) h N) : opOk P w0 r ⟨d, .unOp .not t x, ty, p, af, g⟩ E h N K :=
  ok_val (fun w => by simp [execOp, hx, Op.unary, go_sem]) k
end

/-! #### Lengths, parts, functions -/
theorem ok_len {e : TypeId} {ao : Option Addr} {n cap : Nat} (hT : P.underlying t = some (.slice e)) (hx : ev E x = .slice ao n cap) (k : K (.int .i64 n) h N) :
    opOk P w0 r ⟨d, .call { callee := .builtin .len, args := #[x], argTypes := #[t] }, ty, p, af, g⟩ E h N K :=
  ok_val (fun w => by simp [go_sem, Builtin.len_, hx, run_underlying hT]) k
theorem ok_max {ik : IntKind} {a c : Int} {ts : Array TypeId} (hx : ev E x = .int ik a) (hy : ev E y = .int ik c) (k : K (.int ik (if c > a then c else a)) h N) :
    opOk P w0 r ⟨d, .call { callee := .builtin .max, args := #[x, y], argTypes := ts }, ty, p, af, g⟩ E h N K :=
  ok_val (fun w => by simp [go_sem, Builtin.max_, Builtin.max2, hx, hy]) k
theorem ok_extract {vs : Array Value} {i : Nat} {v : Value} (hx : ev E x = .tuple vs) (hv : vs[i]? = some v) (k : K v h N) : opOk P w0 r ⟨d, .extract x i, ty, p, af, g⟩ E h N K :=
  ok_val (fun w => by simp [execOp, Instr.extract, hx, hv, go_sem]) k
theorem map_list {α β : Type} (xs : Array α) (f : α → β) {vs : List β} (hx : xs.toList.map f = vs) : xs.map f = vs.toArray := by
  apply Array.ext'; simp [hx]
theorem ok_makeFunc {fn : Fn} {xs ys : Array Operand} {vs us : List Value} (hx : xs.toList.map (ev E) = vs) (hy : ys.toList.map (ev E) = us) (k : K (.func fn vs.toArray us.toArray) h N) : opOk P w0 r ⟨d, .makeFunc fn xs ys, ty, p, af, g⟩ E h N K :=
  ok_val (fun w => by simp only [execOp, Instr.makeFunc, map_list _ _ hx, map_list _ _ hy]; simp) k

/-! #### Memory that is made -/
theorem ok_alloc {u : Bool} {n bytes : Nat} {zv : Value} {zs : Array Value} (hT : Ty P t u n bytes zv) (hz : zv.cells = zs) (k : (∀ b, N ≤ b → h b = none) → K (.pointer (some ⟨N, 0, none⟩)) (hset h N (.cells zs t (0, 0))) (N + 1)) : opOk P w0 r ⟨d, .alloc t, ty, p, af, g⟩ E h N K :=
  ok_of fun w hw => ⟨_, _, _, _, by
    have h1 := run_zeroValue hT w
    simp only [execOp, Instr.alloc, Sem.run_bind, h1, Result.andThen, newVar, newRow, hz, newObj, Sem.run, Sem.run_pure, hw.size]
    rfl, hw.alloc _, k (fun _ hb => hw.free hb)⟩
theorem ok_box {v : Value} {zs : Array Value} (hx : ev E x = v) (hz : v.cells = zs) (k : (∀ b, N ≤ b → h b = none) → K (.pointer (some ⟨N, 0, none⟩)) (hset h N (.cells zs t (0, 0))) (N + 1)) : opOk P w0 r ⟨d, .box t x, ty, p, af, g⟩ E h N K :=
  ok_of fun w hw => ⟨_, _, _, _, by
    simp only [execOp, Instr.box, Sem.run_bind, Result.andThen, newVar, newRow, hx, hz, newObj, Sem.run, Sem.run_pure, hw.size]
    rfl, hw.alloc _, k (fun _ hb => hw.free hb)⟩
theorem ok_build {parts : Array (Nat × Operand)} {ps : List (Nat × Value)} {v : Value} (hp : parts.toList.map (fun (i, x) => (i, ev E x)) = ps) (hr : ∀ w, (Instr.build t ps.toArray).run P w = .ok v w) (k : K v h N) : opOk P w0 r ⟨d, .build t parts, ty, p, af, g⟩ E h N K :=
  ok_val (fun w => by simp only [execOp, map_list _ _ hp, Sem.run_bind, hr, Result.andThen, Sem.run_pure]) k

theorem ok_makeSlice {e : TypeId} {u : Bool} {sz bytes : Nat} {zv : Value} {l c : Int} {ik ik' : IntKind} (hT : P.underlying t = some (.slice e)) (hE : Ty P e u sz bytes zv) (hx : ev E x = .int ik l) (hy : ev E y = .int ik' c)
    (h0 : 0 ≤ l) (h1 : l ≤ c) (h2 : c ≤ 9223372036854775807) (h3 : (bytes : Int) * c ≤ 281474976710656) {l' c' : Nat} (hl : l.toNat = l') (hc : c.toNat = c')
    (k : (∀ b, N ≤ b → h b = none) → K (.slice (some ⟨N, 0, none⟩) l' c') (hset h N (.cells (madeCells zv.cells (c' * sz)) e (0, 0))) (N + 1)) : opOk P w0 r ⟨d, .makeSlice t x y, ty, p, af, g⟩ E h N K := by
  obtain ⟨i, hi, hn, hb, hz⟩ := hE.info
  subst hl hc
  refine ok_of fun w hw => ⟨_, _, _, _, ?_, hw.alloc (.cells (madeCells zv.cells (c.toNat * sz)) e (0, 0)), k (fun _ hb => hw.free hb)⟩
  have := run_make (P := P) w t e i zv hT hi hz ik ik' l c h0 h1 (by rw [hb]; exact h3) h2
  simp only [execOp, hx, hy, Sem.run_bind, this, Result.andThen, Sem.run_pure, hn, hw.size]
theorem madeCells_one (z : Value) (n : Nat) : madeCells #[z] n = Array.replicate n z := by
  apply Array.ext
  · simp [madeCells]
  · intro i h1 h2
    simp [madeCells, Nat.mod_one]
theorem ok_buildSlice {e : TypeId} {u : Bool} {sz bytes len : Nat} {zv : Value} {vs : Array Value} {parts : Array (Nat × Operand)} {ps : List (Nat × Value)} (hT : P.underlying t = some (.slice e)) (hE : Ty P e u sz bytes zv)
    (hp : parts.toList.map (fun (i, x) => (i, ev E x)) = ps) (hf : Instr.fill (fun i => some (i * sz, sz)) ((Array.range (len * sz)).map (zv.cells[· % zv.cells.size]!)) ps = some vs) (h0 : 0 < len * sz) (h1 : len * sz ≤ 16777216)
    (k : (∀ b, N ≤ b → h b = none) → K (.slice (some ⟨N, 0, none⟩) len len) (hset h N (.cells vs e (0, 0))) (N + 1)) : opOk P w0 r ⟨d, .buildSlice t len parts, ty, p, af, g⟩ E h N K := by
  refine ok_of fun w hw => ⟨_, _, _, _, ?_, hw.alloc (.cells vs e (0, 0)), k (fun _ hb => hw.free hb)⟩
  obtain ⟨i, hi, hn, hb, hz⟩ := hE.info
  have h2 : ¬ len * sz > 2 ^ 24 := by omega
  have h3 : ¬ len * sz = 0 := by omega
  have hrun : (Instr.buildSlice t len (parts.map (fun (i, x) => (i, ev E x)))).run P w = .ok (.slice (some ⟨w.heap.size, 0, none⟩) len len) (w.alloc (.cells vs e)) := by
    subst hn
    rw [map_list _ _ hp]
    simp [Instr.buildSlice, run_underlying hT, sizeOf, typeInfo, zeroValue, hi, hz, h2, h3, hf, newRow]
  simp only [execOp, Sem.run_bind, hrun, Result.andThen, Sem.run_pure, hw.size]

/-! #### Slicing -/
section
variable {e : TypeId} {u : Bool} {sz bytes o len cap : Nat} {zv : Value} {lo hi : Operand} {l m : Int} {ik ik' : IntKind} {ao : Option Addr}
theorem ok_slice_hi (hT : P.underlying t = some (.slice e)) (hE : Ty P e u sz bytes zv) (hx : ev E x = .slice ao len cap) (hh : ev E hi = .int ik m) (h0 : 0 ≤ m) (h1 : m ≤ cap)
    (k : K (.slice ao m.toNat cap) h N) : opOk P w0 r ⟨d, .slice t x none (some hi) none, ty, p, af, g⟩ E h N K :=
  ok_val (fun w => by
    simp [execOp, Instr.sliceAt, Instr.slice, Instr.sliceBounds, Instr.sliceBound, go_sem, run_underlying hT, hx, hh, h0, h1, run_sizeOf hE]) k
theorem ok_slice_lo (hT : P.underlying t = some (.slice e)) (hE : Ty P e u sz bytes zv) (hx : ev E x = .slice (some ⟨b, o, none⟩) len cap) (hl : ev E lo = .int ik l) (h0 : 0 ≤ l) (h1 : l ≤ len)
    {o' n' c' : Nat} (ho : (if cap = l.toNat then o else o + l.toNat * sz) = o') (hn : len - l.toNat = n') (hc : cap - l.toNat = c')
    (k : K (.slice (some ⟨b, o', none⟩) n' c') h N) : opOk P w0 r ⟨d, .slice t x (some lo) none none, ty, p, af, g⟩ E h N K :=
  ok_val (fun w => by
    subst ho hn hc
    simp only [execOp, Instr.sliceAt, Instr.slice, Instr.sliceBounds, Instr.sliceBound, go_sem, run_underlying hT, hx, hl, h0, h1, run_sizeOf hE, Sem.run_bind, Result.andThen, Sem.run_pure, Option.map_some, Option.map_none, asIntOf, and_self, if_true, add_none]
    split <;> rfl) k
theorem ok_slice_lohi (hT : P.underlying t = some (.slice e)) (hE : Ty P e u sz bytes zv) (hx : ev E x = .slice (some ⟨b, o, none⟩) len cap) (hl : ev E lo = .int ik l) (hh : ev E hi = .int ik' m) (h0 : 0 ≤ l) (h1 : l ≤ m) (h2 : m ≤ cap)
    {o' n' c' : Nat} (ho : (if cap = l.toNat then o else o + l.toNat * sz) = o') (hn : m.toNat - l.toNat = n') (hc : cap - l.toNat = c')
    (k : K (.slice (some ⟨b, o', none⟩) n' c') h N) : opOk P w0 r ⟨d, .slice t x (some lo) (some hi) none, ty, p, af, g⟩ E h N K :=
  ok_val (fun w => by
    subst ho hn hc
    have h3 : 0 ≤ m := by omega
    have h4 : l ≤ (m.toNat : Int) := by omega
    simp only [execOp, Instr.sliceAt, Instr.slice, Instr.sliceBounds, Instr.sliceBound, go_sem, run_underlying hT, hx, hl, hh, h0, h2, h3, h4, run_sizeOf hE, Sem.run_bind, Result.andThen, Sem.run_pure, Option.map_some, Option.map_none, asIntOf, and_self, if_true, add_none]
    split <;> rfl) k
end

/-! #### Calls -/
def CallsX (P : Program) (w0 : World) (f : FuncId) (args : Array Value) (h : Hp) (N : Nat) (R : Value → Hp → Nat → Prop) : Prop :=
  ∀ w, At w0 h N w → Calls P f args w (back w0 R)
theorem CallsX.mono {f : FuncId} {args : Array Value} {R R' : Value → Hp → Nat → Prop} (hc : CallsX P w0 f args h N R) (hr : ∀ v h' N', R v h' N' → R' v h' N') : CallsX P w0 f args h N R' :=
  fun w hw => (hc w hw).mono (back_mono hr)
theorem callsIn_FW {f : FuncId} {args : Array Value} {w : World} {R : Ending → World → Prop} (hc : Calls P f args w R) : CallsIn (FW r) 0 P f args w R := by
  have := (callsIn_wide (n := 0)).2 hc
  exact this
theorem ok_call {fo : Operand} {i : FuncId} {xs : Array Operand} {ts : Array TypeId} {first cap : Array Value} {args : List Value} {R : Value → Hp → Nat → Prop} (hf : ev E fo = .func (.func i) first cap) (he : Enters P i) (hc : CallsX P w0 i args.toArray h N R) (ha : first.toList ++ xs.toList.map (ev E) ++ cap.toList = args)
    (k : ∀ v h' N', R v h' N' → K v h' N') : opOk P w0 r ⟨d, .call { callee := .value fo, args := xs, argTypes := ts }, ty, p, af, g⟩ E h N K := by
  intro w hw
  have hrun : (execOp (ev E) ⟨d, .call { callee := .value fo, args := xs, argTypes := ts }, ty, p, af, g⟩).run P w = .ok (.enter i args.toArray) w := by
    have h1 := he args.toArray w
    have ha : first ++ xs.map (ev E) ++ cap = args.toArray := by apply Array.ext'; rw [← ha]; simp
    simp only [execOp, resolve, hf, Deferred.ofValue, Sem.run_bind, Sem.run_pure, Result.andThen, invoke, ha, h1]
  rw [hrun]
  exact callsIn_FW ((hc w hw).mono (back_mono k))

theorem ok_clear1 {e : TypeId} {u : Bool} {bytes o n c : Nat} {zv : Value} (hT : P.underlying t = some (.slice e)) (hE : Ty P e u 1 bytes zv) (h1 : isOne zv = true) (hx : ev E x = .slice (some ⟨b, o, none⟩) n c) (hb : h b = some (.cells cs te (0, 0))) (hn : o + n ≤ cs.size)
    (k : K (.tuple #[]) (hset h b (.cells (lay cs o (List.replicate n zv)) te (0, 0))) N) : opOk P w0 r ⟨d, .call { callee := .builtin .clear, args := #[x], argTypes := #[t] }, ty, p, af, g⟩ E h N K := by
  refine ok_of fun w hw => ?_
  have hzc : (Builtin.zeroCells #[zv] n).toList = List.replicate n zv := by
    have : Builtin.zeroCells #[zv] n = madeCells #[zv] (n * 1) := rfl
    rw [this, madeCells_one]; simp
  obtain ⟨w', hr, ha⟩ := run_storeCells (P := P) (List.replicate n zv) w h b o 0 cs te hw hb (by simpa using hn) (fun v hv => by rw [(List.mem_replicate.1 hv).2]; exact h1)
  rw [Nat.add_zero, lay_eq cs o _ (by simpa using hn)] at ha
  refine ⟨.tuple #[], w', _, N, ?_, ha, k⟩
  have hzv := run_zeroValue hE w
  cases n with
  | zero =>
    have : w' = w := by simp [storeCells] at hr; exact hr.symm
    subst this
    simp [go_sem, Builtin.clear_, hx, run_underlying hT]
  | succ n =>
    have hm := cells_one h1
    unfold Value.cells at hm
    simp [go_sem, Builtin.clear_, hx, run_underlying hT, hzv, hm, hzc, hr]

/-! #### A slice against nil -/
theorem run_equal_nil {ao : Option Addr} {n c : Nat} {e : TypeId} (hT : P.underlying t = some (.slice e)) (w : World) : (Op.equal t (.slice ao n c) (.slice none 0 0)).run P w = .ok ao.isNone w := by
  have h1 : ∀ k : Nat, (Op.equalIn (k + 1) t (.slice ao n c) (.slice none 0 0)).run P w = .ok ao.isNone w := fun k => by
    cases ao <;> simp [Op.equalIn, run_underlying hT]
  exact h1 9999
theorem ok_eql_nil {ao : Option Addr} {n c : Nat} {t' : TypeId} {e : TypeId} (hT : P.underlying t = some (.slice e)) (hx : ev E x = .slice ao n c) (hy : ev E y = .slice none 0 0) (k : K (.bool ao.isNone) h N) : opOk P w0 r ⟨d, .binOp .eql t x y t', ty, p, af, g⟩ E h N K :=
  ok_val (fun w => by
    have h1 : (binOp .eql t (.slice ao n c) (.slice none 0 0)).run P w = .ok (.bool ao.isNone) w := by
      simp only [binOp, Sem.run_bind, run_equal_nil hT, Result.andThen, Sem.run_pure]
    have h2 : (eqGuard .eql t x y (.slice ao n c) (.slice none 0 0)).run P w = .ok () w := rfl
    simp only [execOp, hx, hy, Sem.run_bind, h1, h2, Result.andThen, Sem.run_pure]) k

/-! #### append -/
/-- The slice v, alone in its row, holds the cells xs. -/
def Own (h : Hp) (e : TypeId) (sz : Nat) (v : Value) (xs : List Value) : Prop :=
  (v = .slice none 0 0 ∧ xs = []) ∨ ∃ b n c cs, v = .slice (some ⟨b, 0, none⟩) n c ∧ h b = some (.cells cs e (0, 0)) ∧ cs.size = c * sz ∧ n ≤ c ∧ xs.length = n * sz ∧ cs.toList.take (n * sz) = xs

theorem zeroCells_eq (z : Array Value) (n : Nat) : Builtin.zeroCells z n = madeCells z (n * z.size) := rfl

theorem ok_append_none {e : TypeId} {u : Bool} {sz bytes n c c2 : Nat} {zv : Value} {ao a2 : Option Addr} {ts : Array TypeId} (hts : ts = #[t, t]) (hT : P.underlying t = some (.slice e)) (hE : Ty P e u sz bytes zv) (hx : ev E x = .slice ao n c) (hy : ev E y = .slice a2 0 c2) (hn : n ≤ c)
    (k : K (.slice ao n c) h N) : opOk P w0 r ⟨d, .call { callee := .builtin .append, args := #[x, y], argTypes := ts }, ty, p, af, g⟩ E h N K := by
  subst hts
  refine ok_val (v := .slice ao n c) (fun w => ?_) k
  cases ao <;> cases a2 <;> simp [go_sem, Builtin.append_, hx, hy, run_underlying hT, run_sizeOf hE, Builtin.lenOf, hn, storeCells, loadCells, loadCellsFrom]

/-- What append takes: m elements, from place o2 of row b2 on. -/
theorem ok_append {e : TypeId} {u : Bool} {sz bytes m o2 c2 b2 : Nat} {zv v : Value} {xs : List Value} {ys : Array Value} {t2 : TypeId} {fz2 : Nat × Nat} {ts : Array TypeId} (hts : ts = #[t, t]) (hT : P.underlying t = some (.slice e)) (hE : Ty P e u sz bytes zv) (hzs : zv.cells.size = sz)
    (hx : ev E x = v) (ho : Own h e sz v xs) (hy : ev E y = .slice (some ⟨b2, o2, none⟩) m c2) (hb2 : h b2 = some (.cells ys t2 fz2)) (hm : o2 + m * sz ≤ ys.size) (h1 : ∀ v ∈ (ys.extract o2 (o2 + m * sz)).toList, isOne v = true) (hpos : 0 < m)
    (hsz0 : 0 < sz) (hfit : (xs.length + m * sz) * bytes ≤ 1000000000) (hlen : xs.length + m * sz ≤ 1000000000)
    (k : ∀ b' n' c' cs' N', ((b' = N ∧ N' = N + 1 ∧ (∀ b, N ≤ b → h b = none)) ∨ (N' = N ∧ ∃ n c cs, v = .slice (some ⟨b', 0, none⟩) n c ∧ h b' = some (.cells cs e (0, 0)))) → cs'.size = c' * sz → n' ≤ c' → (xs ++ (ys.extract o2 (o2 + m * sz)).toList).length = n' * sz →
      cs'.toList.take (n' * sz) = xs ++ (ys.extract o2 (o2 + m * sz)).toList → n' * sz = xs.length + m * sz → K (.slice (some ⟨b', 0, none⟩) n' c') (hset h b' (.cells cs' e (0, 0))) N') :
    opOk P w0 r ⟨d, .call { callee := .builtin .append, args := #[x, y], argTypes := ts }, ty, p, af, g⟩ E h N K := by
  subst hts
  obtain ⟨i, hi, hisz, hib, hiz⟩ := hE.info
  subst hisz hib
  generalize hnews : (ys.extract o2 (o2 + m * i.size)).toList = news at *
  have hnl : news.length = m * i.size := by rw [← hnews]; simp; omega
  have hcap : ∀ (need old : Nat) (w : World), need ≤ 1000000000 → need ≤ grownCap w need old e := by
    intro need old w _
    exact Nat.le_add_right _ _
  have hcells : ∀ w, At w0 h N w → ∀ j v, news[j]? = some v → w.cell? ((⟨b2, o2, none⟩ : Addr).add j) = some v := by
    intro w hw j v hj
    rw [add_none, hw.cell hb2]
    rw [← hnews] at hj
    simp only [Array.getElem?_toList, Array.getElem?_extract] at hj
    split at hj
    · rename_i hlt; exact hj
    · cases hj
  refine ok_of fun w hw => ?_
  have hex : (execOp (ev E) ⟨d, .call { callee := .builtin .append, args := #[x, y], argTypes := #[t, t] }, ty, p, af, g⟩).run P w = ((Builtin.append_ #[t, t] ty #[ev E x, ev E y]).run P w).andThen (fun a w' => .ok (.value a) w') := by
    rw [BigFrame.execOp_builtin, BigFrame.builtin_append, Sem.run_bind]
    simp only [List.map_toArray, List.map_cons, List.map_nil, Sem.run_pure]
  rcases ho with ⟨rfl, rfl⟩ | ⟨b, n, c, cs, rfl, hb, hcs, hnc, hxl, hxs⟩
  · -- nil
    have hr := run_append_nil (P := P) w t ty e i zv hT hi hiz ⟨b2, o2, none⟩ m c2 news hnl (hcells w hw) hpos (by have : m ≤ m * i.size := Nat.le_mul_of_pos_right m hsz0; simp at hlen; omega) (by
      simp only [List.length_nil, Nat.zero_add] at hfit
      have h3 : m * i.bytes ≤ m * i.size * i.bytes := Nat.mul_le_mul_right _ (Nat.le_mul_of_pos_right m hsz0)
      omega)
    have hm9 : m ≤ 1000000000 := by have : m ≤ m * i.size := Nat.le_mul_of_pos_right m hsz0; simp at hlen; omega
    have hc9 := hcap m 0 w hm9
    generalize hgc : grownCap w m 0 e = gc at *
    have hzz : (Builtin.zeroCells zv.cells (gc - m)).size = (gc - m) * i.size := by rw [zeroCells_eq, size_madeCells, hzs]
    have hcc : m * i.size + (gc - m) * i.size = gc * i.size := by rw [← Nat.add_mul]; congr 1; omega
    refine ⟨.slice (some ⟨N, 0, none⟩) m gc, w.drew.alloc (.cells (news.toArray ++ Builtin.zeroCells zv.cells (gc - m)) e), hset h N (.cells (news.toArray ++ Builtin.zeroCells zv.cells (gc - m)) e (0, 0)), N + 1, ?_, hw.drew.alloc _,
      k N m gc _ (N + 1) (.inl ⟨rfl, rfl, fun _ hb => hw.free hb⟩) (by simp [hzz, hnl]; omega) hc9 (by simpa using hnl) ?_ (by simp)⟩
    · rw [hw.size] at hr
      rw [hex, hx, hy, hr]; rfl
    · simp [List.take_left' hnl]
  · -- its own row
    have hnm : xs.length + m * i.size = (n + m) * i.size := by rw [hxl, Nat.add_mul]
    have hnm9 : n + m ≤ 1000000000 := by have : n + m ≤ (n + m) * i.size := Nat.le_mul_of_pos_right _ hsz0; omega
    have hold : ∀ w, At w0 h N w → ∀ j v, xs[j]? = some v → w.cell? ((⟨b, 0, none⟩ : Addr).add j) = some v := by
      intro w hw j v hj
      rw [add_none, hw.cell hb, Nat.zero_add]
      rw [← hxs, List.getElem?_take] at hj
      split at hj
      · simpa using hj
      · cases hj
    by_cases hroom : n + m ≤ c
    · have hfit2 : n * i.size + m * i.size ≤ cs.size := by rw [hcs, ← Nat.add_mul]; exact Nat.mul_le_mul_right _ hroom
      obtain ⟨w', hr, ha⟩ := run_storeCells (P := P) news w h b (n * i.size) 0 cs e hw hb (by rw [hnl]; omega) h1
      rw [Nat.add_zero, lay_eq cs _ news (by rw [hnl]; omega)] at ha
      have hf := run_firstCells_some (P := P) w i.size m ⟨b2, o2, none⟩ m c2 news hnl (hcells w hw)
      simp only [Builtin.firstCells, loadCells] at hf
      refine ⟨.slice (some ⟨b, 0, none⟩) (n + m) c, w', _, N, ?_, ha, k b (n + m) c _ N (.inr ⟨rfl, n, c, cs, rfl, hb⟩) (by rw [lay_size _ _ _ (by rw [hnl]; omega), hcs]) hroom (by simp [hxl, hnl, Nat.add_mul]) ?_ (by rw [hnm])⟩
      · rw [hex, hx, hy]
        simp [go_sem, Builtin.append_, run_underlying hT, run_sizeOf hE, Builtin.lenOf, hroom, hf, add_none, hr]
      · show List.take _ (cs.toList.take (n * i.size) ++ (news ++ _)) = _
        rw [hxs, ← List.append_assoc, List.take_left']
        simp [hxl, hnl, Nat.add_mul]
    · have hg : c < n + m := by omega
      have hbytes : (n + m) * i.bytes ≤ 1000000000 := by
        have h3 : (n + m) * i.bytes ≤ (n + m) * i.size * i.bytes := Nat.mul_le_mul_right _ (Nat.le_mul_of_pos_right _ hsz0)
        rw [hnm] at hfit
        omega
      have hr := run_append_grow (P := P) w t ty e i zv hT hi hiz ⟨b, 0, none⟩ n c xs hxl (hold w hw) ⟨b2, o2, none⟩ m c2 news hnl (hcells w hw) hg (by omega) (growslice_fits hg (by omega))
      have hc9 := hcap (n + m) c w hnm9
      generalize hgc : grownCap w (n + m) c e = gc at *
      have hzz : (Builtin.zeroCells zv.cells (gc - (n + m))).size = (gc - (n + m)) * i.size := by rw [zeroCells_eq, size_madeCells, hzs]
      have hcc : (n + m) * i.size + (gc - (n + m)) * i.size = gc * i.size := by rw [← Nat.add_mul]; congr 1; omega
      refine ⟨.slice (some ⟨N, 0, none⟩) (n + m) gc, w.drew.alloc (.cells (xs.toArray ++ news.toArray ++ Builtin.zeroCells zv.cells (gc - (n + m))) e), hset h N (.cells (xs.toArray ++ news.toArray ++ Builtin.zeroCells zv.cells (gc - (n + m))) e (0, 0)), N + 1, ?_, hw.drew.alloc _,
        k N (n + m) gc _ (N + 1) (.inl ⟨rfl, rfl, fun _ hb => hw.free hb⟩) (by simp only [Array.size_append, List.size_toArray, hzz, hnl]; omega) hc9 (by simp [hxl, hnl, Nat.add_mul]) ?_ (by rw [hnm])⟩
      · rw [hw.size] at hr
        rw [hex, hx, hy, hr]; rfl
      · simp only [Array.toList_append]
        rw [List.take_left']
        simp [hxl, hnl, Nat.add_mul]

theorem ok_buildSlice0 {e : TypeId} {u : Bool} {sz bytes : Nat} {zv : Value} (hT : P.underlying t = some (.slice e)) (hE : Ty P e u sz bytes zv) (k : (∀ b, N ≤ b → h b = none) → K (.slice (some ⟨N, 0, none⟩) 0 0) (hset h N (.cells #[] e (0, 0))) (N + 1)) : opOk P w0 r ⟨d, .buildSlice t 0 #[], ty, p, af, g⟩ E h N K := by
  refine ok_of fun w hw => ⟨_, _, _, _, ?_, hw.alloc (.cells #[] e (0, 0)), k (fun _ hb => hw.free hb)⟩
  have hrun : (Instr.buildSlice t 0 #[]).run P w = .ok (.slice (some ⟨w.heap.size, 0, none⟩) 0 0) (w.alloc (.cells #[] e)) := by
    simp [Instr.buildSlice, run_underlying hT, run_sizeOf hE, newRow, Instr.fill, Array.range_zero']
  simp only [execOp, List.map_toArray, List.map_nil, Sem.run_bind, hrun, Result.andThen, Sem.run_pure, hw.size]

/-! #### Bits of a uint64 -/
def or64 (a c : Int) : Int := IntKind.wrap .u64 ((BitVec.ofInt 64 a ||| BitVec.ofInt 64 c).toNat : Int)
def and64 (a c : Int) : Int := IntKind.wrap .u64 ((BitVec.ofInt 64 a &&& BitVec.ofInt 64 c).toNat : Int)
def shl64 (a c : Int) : Int := IntKind.wrap .u64 (a * 2 ^ (min c.toNat 64))
section
variable {t' : TypeId} {a c : Int} {ik : IntKind}
theorem ok_or (hx : ev E x = .int .u64 a) (hy : ev E y = .int .u64 c) (k : K (.int .u64 (or64 a c)) h N) : opOk P w0 r ⟨d, .binOp .or t x y t', ty, p, af, g⟩ E h N K :=
  ok_val (fun w => by
    have h1 : (binOp .or t (.int .u64 a) (.int .u64 c)).run P w = .ok (.int .u64 (or64 a c)) w := rfl
    have h2 : (eqGuard .or t x y (.int .u64 a) (.int .u64 c)).run P w = .ok () w := rfl
    simp only [execOp, hx, hy, Sem.run_bind, h1, h2, Result.andThen, Sem.run_pure]) k
theorem ok_and (hx : ev E x = .int .u64 a) (hy : ev E y = .int .u64 c) (k : K (.int .u64 (and64 a c)) h N) : opOk P w0 r ⟨d, .binOp .and t x y t', ty, p, af, g⟩ E h N K :=
  ok_val (fun w => by
    have h1 : (binOp .and t (.int .u64 a) (.int .u64 c)).run P w = .ok (.int .u64 (and64 a c)) w := rfl
    have h2 : (eqGuard .and t x y (.int .u64 a) (.int .u64 c)).run P w = .ok () w := rfl
    simp only [execOp, hx, hy, Sem.run_bind, h1, h2, Result.andThen, Sem.run_pure]) k
theorem ok_shl (hx : ev E x = .int .u64 a) (hy : ev E y = .int ik c) (h0 : 0 ≤ c) (k : K (.int .u64 (shl64 a c)) h N) : opOk P w0 r ⟨d, .binOp .shl t x y t', ty, p, af, g⟩ E h N K :=
  ok_val (fun w => by
    have h0' : ¬ c < 0 := by omega
    have h1 : (binOp .shl t (.int .u64 a) (.int ik c)).run P w = .ok (.int .u64 (shl64 a c)) w := by
      simp [binOp, Op.shift, h0', shl64, IntKind.bits]
    have h2 : (eqGuard .shl t x y (.int .u64 a) (.int ik c)).run P w = .ok () w := rfl
    simp only [execOp, hx, hy, Sem.run_bind, h1, h2, Result.andThen, Sem.run_pure]) k
end
theorem ok_indexStr {sx : ByteArray} {i : Int} {ik : IntKind} {bv : UInt8} (hT : P.underlying t = some .string) (hx : ev E x = .string sx) (hy : ev E y = .int ik i) (h0 : 0 ≤ i) (hb : sx[i.toNat]? = some bv) (k : K (.int .u8 bv.toNat) h N) : opOk P w0 r ⟨d, .index t x y, ty, p, af, g⟩ E h N K :=
  ok_val (fun w => by simp [execOp, Instr.index, go_sem, run_underlying hT, hx, hy, h0, hb]) k
end
end Sx
end Go.Proofs.YbulkcsqkGreat
