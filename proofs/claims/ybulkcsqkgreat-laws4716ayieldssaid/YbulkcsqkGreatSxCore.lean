import Derived.OrdersIn
import Derived.OwnWalkIn
import Derived.WalkKit
import Derived.Shelf.Abstract
namespace Go.Proofs.YbulkcsqkGreat
namespace Sx

abbrev Env := Nat → Value
abbrev Hp := Nat → Option Obj

def upd (E : Env) (d : Nat) (v : Value) : Env := fun t => cond (Nat.beq t d) v (E t)
def put (E : Env) (d : Option Nat) (v : Value) : Env :=
  match d with
  | some d => upd E d v
  | none => E
def ev (E : Env) : Operand → Value
  | .tmp t => E t
  | .const v => v
  | .global g => .pointer (some ⟨g, 0, none⟩)
  | .func f => .func (.func f) #[] #[]
def env (a : Act) : Env := fun t => a.tmps.getD t undef

theorem eval_env (a : Act) : a.eval = ev (env a) := by
  funext x
  cases x <;> rfl

theorem upd_same (E : Env) (d : Nat) (v : Value) : upd E d v d = v := by simp [upd]
theorem upd_ne (E : Env) {d t : Nat} (v : Value) (h : t ≠ d) : upd E d v t = E t := by
  have : Nat.beq t d = false := by
    cases hb : Nat.beq t d with
    | false => rfl
    | true => exact absurd (Nat.eq_of_beq_eq_true hb) h
  simp [upd, this]

/-- Slots that are known, over a frame of which nothing else is. -/
def updL (E : Env) : List (Nat × Value) → Env
  | [] => E
  | (d, v) :: l => upd (updL E l) d v
@[reducible] def Fr (E : Env) : List (Nat × Value) → Prop
  | [] => True
  | (d, v) :: l => E d = v ∧ Fr E l
theorem upd_self {E : Env} {d : Nat} {v : Value} (h : E d = v) : upd E d v = E := by
  funext t
  by_cases e : t = d
  · subst e; rw [upd_same, h]
  · rw [upd_ne _ _ e]
theorem Fr.eq {E : Env} : ∀ {l : List (Nat × Value)}, Fr E l → E = updL E l
  | [], _ => rfl
  | (d, v) :: l, h => by
    have h1 := Fr.eq h.2
    simp only [updL]
    rw [← h1, upd_self h.1]
theorem Fr.ex {E : Env} {l : List (Nat × Value)} (h : Fr E l) : ∃ E0, E = updL E0 l := ⟨E, h.eq⟩

theorem env_put (a : Act) {d : Nat} (v : Value) (h : d < a.tmps.size) : env (a.put (some d) v) = upd (env a) d v := by
  funext t
  by_cases e : t = d
  · subst e
    rw [upd_same]
    simp [env, Act.put, h]
  · rw [upd_ne _ _ e]
    simp only [env, Act.put, Array.getD_eq_getD_getElem?]
    rw [Array.getElem?_setIfInBounds_ne (fun h => e h.symm)]

theorem size_put (a : Act) (d : Option Nat) (v : Value) : (a.put d v).tmps.size = a.tmps.size := by
  cases d <;> simp [Act.put]
theorem defers_put (a : Act) (d : Option Nat) (v : Value) : (a.put d v).defers = a.defers := by
  cases d <;> rfl

structure At (w0 : World) (h : Hp) (N : Nat) (w : World) : Prop where
  heap : ∀ b, w.heap[b]? = h b
  size : w.heap.size = N
  tape : w.tape = w0.tape
  os : w.os = w0.os
  output : w.output = w0.output
  dr : w0.drawn ≤ w.drawn

abbrev FW (r : Option Nat) : Fence := { Fence.wide with round := r }

def back (w0 : World) (K : Value → Hp → Nat → Prop) (e : Ending) (w : World) : Prop :=
  ∃ v h N, e = .returned v ∧ At w0 h N w ∧ K v h N

def resOk (P : Program) (w0 : World) (r : Option Nat) (K : Value → Hp → Nat → Prop) : Result Next → Prop
  | .ok (.value v) w => ∃ h N, At w0 h N w ∧ K v h N
  | .ok .skip w => ∃ h N, At w0 h N w ∧ K undef h N
  | .ok (.enter f args) w => CallsIn (FW r) 0 P f args w (back w0 K)
  | .ok (.round l f tmps assign body) w => RoundIn (FW r) 0 P l f tmps assign body w (back w0 K)
  | _ => False

def opOk (P : Program) (w0 : World) (r : Option Nat) (o : Oper) (E : Env) (h : Hp) (N : Nat) (K : Value → Hp → Nat → Prop) : Prop :=
  ∀ w, At w0 h N w → resOk P w0 r K ((execOp (ev E) o).run P w)

theorem back_mono {w0 : World} {K K' : Value → Hp → Nat → Prop} (hk : ∀ v h N, K v h N → K' v h N) (e : Ending) (w : World) (h : back w0 K e w) : back w0 K' e w := by
  obtain ⟨v, h', N, he, ha, k⟩ := h
  exact ⟨v, h', N, he, ha, hk _ _ _ k⟩

theorem resOk_mono {P : Program} {w0 : World} {r : Option Nat} {K K' : Value → Hp → Nat → Prop} (hk : ∀ v h N, K v h N → K' v h N) (x : Result Next)
    (h : resOk P w0 r K x) : resOk P w0 r K' x := by
  cases x with
  | halt e w => exact h
  | ok n w =>
    cases n <;> simp only [resOk] at h ⊢
    case value v => obtain ⟨h', N, ha, k⟩ := h; exact ⟨h', N, ha, hk _ _ _ k⟩
    case skip => obtain ⟨h', N, ha, k⟩ := h; exact ⟨h', N, ha, hk _ _ _ k⟩
    case enter f args => exact h.mono (back_mono hk)
    case round l f tmps asg bd => exact h.mono (back_mono hk)

theorem opOk_mono {P : Program} {w0 : World} {r : Option Nat} {o : Oper} {E : Env} {h : Hp} {N : Nat} {K K' : Value → Hp → Nat → Prop}
    (hk : ∀ v h N, K v h N → K' v h N) (hh : opOk P w0 r o E h N K) : opOk P w0 r o E h N K' :=
  fun w hw => resOk_mono hk _ (hh w hw)

/-- An operation that may stand in a region walked here. -/
def opB (nt : Nat) (o : Oper) : Bool :=
  (match o.dst with
   | some d => Nat.blt d nt
   | none => true) &&
  (match o.op with
   | .defer _ => false
   | .select _ _ => false
   | _ => true)

theorem opB_dst {nt : Nat} {o : Oper} (h : opB nt o = true) : ∀ d, o.dst = some d → d < nt := by
  intro d hd
  simp only [opB, hd, Bool.and_eq_true] at h
  exact (Nat.blt_eq ▸ h.1 : d < nt)
theorem opB_defer {nt : Nat} {o : Oper} (h : opB nt o = true) : ∀ c, o.op ≠ .defer c := by
  intro c hc
  simp [opB, hc] at h
theorem opB_select {nt : Nat} {o : Oper} (h : opB nt o = true) : ∀ cs b, o.op ≠ .select cs b := by
  intro cs b hc
  simp [opB, hc] at h

theorem env_put' (a : Act) {nt : Nat} {o : Oper} (h : opB nt o = true) (hn : a.tmps.size = nt) (v : Value) : env (a.put o.dst v) = put (env a) o.dst v := by
  cases hd : o.dst with
  | none => rfl
  | some d => exact env_put a v (by rw [hn]; exact opB_dst h d hd)

theorem opOk_wpIn {P : Program} {w0 : World} {r : Option Nat} {o : Oper} {h : Hp} {N nt : Nat} {K : Value → Hp → Nat → Prop} {a : Act} {w : World}
    {next : Act → World → Prop} {Q : Exit → Act → World → Prop} (hB : opB nt o = true) (hh : opOk P w0 r o (env a) h N K) (hw : At w0 h N w)
    (hn : ∀ v h' N' w', K v h' N' → At w0 h' N' w' → next (a.put o.dst v) w') : o.wpIn (FW r) 0 P a w next Q := by
  refine ⟨fun _ _ => trivial, ?_⟩
  rw [Oper.semAt_eq _ _ _ (opB_defer hB), eval_env]
  have h1 := hh w hw
  generalize (execOp (ev (env a)) o).run P w = x at h1
  cases x with
  | halt e w' => exact h1.elim
  | ok n w' =>
    cases n <;> simp only [resOk] at h1 <;> simp only [Oper.uponIn]
    case value v => obtain ⟨h', N', ha, k⟩ := h1; exact hn _ _ _ _ k ha
    case skip => obtain ⟨h', N', ha, k⟩ := h1; exact hn _ _ _ _ k ha
    case enter f args =>
      refine ⟨fun hd => by simp [Fence.wide] at hd, h1.mono ?_⟩
      rintro e w'' ⟨v, h', N', rfl, ha, k⟩
      exact hn _ _ _ _ k ha
    case round l f tmps asg bd =>
      refine ⟨fun hd => by simp [Fence.wide] at hd, h1.mono ?_⟩
      rintro e w'' ⟨v, h', N', rfl, ha, k⟩
      exact hn _ _ _ _ k ha

/-! ### A region in its own order -/
def yieldE (ops : List Oper) (E : Env) (j : Nat) : Option Bool :=
  match (ops[j]?).bind (·.dst) with
  | some d => match E d with
    | .bool b => some b
    | _ => none
  | none => none
def wantE (ops : List Oper) (o : Oper) (E : Env) : Bool := Region.wanted o (yieldE ops E)

theorem yieldE_eq (ops : List Oper) (a : Act) (j : Nat) : yielded ops.toArray a.tmps j = yieldE ops (env a) j := by
  unfold yielded yieldE env
  simp only [List.getElem?_toArray]
  cases (ops[j]?).bind (·.dst) with
  | none => rfl
  | some d =>
    simp only [Option.bind_some, Array.getD_eq_getD_getElem?]
    cases a.tmps[d]? with
    | none => rfl
    | some v => cases v <;> rfl
theorem wantE_eq (ops : List Oper) (o : Oper) (a : Act) : Region.wanted o (yielded ops.toArray a.tmps) = wantE ops o (env a) := by
  unfold wantE Region.wanted
  cases o.guard with
  | none => rfl
  | some g => obtain ⟨j, want⟩ := g; simp only [yieldE_eq]

def opsOk (P : Program) (w0 : World) (r : Option Nat) (ops : List Oper) (Q : Env → Hp → Nat → Prop) : List Oper → Env → Hp → Nat → Prop
  | [], E, h, N => Q E h N
  | o :: rest, E, h, N =>
    if wantE ops o E = true then opOk P w0 r o E h N (fun v h' N' => opsOk P w0 r ops Q rest (put E o.dst v) h' N')
    else opsOk P w0 r ops Q rest (put E o.dst undef) h N

def regB (nt : Nat) (l : List Oper) : Bool := l.all (opB nt)

/-- What a frame and a world must look like behind a piece of code. -/
def lift (w0 : World) (nt : Nat) (Q : Exit → Env → Hp → Nat → List Deferred → Prop) : Exit → Act → World → Prop :=
  fun e a w => a.tmps.size = nt ∧ ∃ h N, At w0 h N w ∧ Q e (env a) h N a.defers

theorem opsOk_list {P : Program} {w0 : World} {r : Option Nat} {ops : List Oper} {nt : Nat} {D : List Deferred} {Q : Exit → Env → Hp → Nat → List Deferred → Prop} : ∀ (l : List Oper) (a : Act) (w : World) (h : Hp) (N : Nat),
    l.all (opB nt) = true → a.tmps.size = nt → a.defers = D → At w0 h N w → opsOk P w0 r ops (fun E h N => Q .normal E h N D) l (env a) h N → wpListIn (FW r) 0 P ops.toArray (lift w0 nt Q) l a w
  | [], a, w, h, N, _, hs, hd, hw, hh => ⟨hs, h, N, hw, by rw [hd]; exact hh⟩
  | o :: rest, a, w, h, N, hB, hs, hd, hw, hh => by
    simp only [List.all_cons, Bool.and_eq_true] at hB
    unfold wpListIn
    simp only [opsOk] at hh
    rw [wantE_eq]
    split at hh
    · rename_i hwant
      rw [if_pos hwant]
      refine opOk_wpIn hB.1 hh hw ?_
      intro v h' N' w' hk hw'
      refine opsOk_list rest _ w' h' N' hB.2 (by rw [size_put]; exact hs) (D := D) (by rw [defers_put]; exact hd) hw' ?_
      rw [env_put' a hB.1 hs]
      exact hk
    · rename_i hwant
      rw [if_neg hwant]
      refine ⟨fun _ _ => trivial, opsOk_list rest _ w h N hB.2 (by rw [size_put]; exact hs) (D := D) (by rw [defers_put]; exact hd) hw ?_⟩
      rw [env_put' a hB.1 hs]
      exact hh

/-! ### Code -/
def codeOk (P : Program) (w0 : World) (r : Option Nat) (nt : Nat) (c : Code) (Q : Exit → Env → Hp → Nat → List Deferred → Prop) (E : Env) (h : Hp) (N : Nat) (D : List Deferred) : Prop :=
  ∀ a w, a.tmps.size = nt → env a = E → a.defers = D → At w0 h N w → c.wpIn (FW r) 0 P (lift w0 nt Q) a w

section
variable {P : Program} {w0 : World} {r : Option Nat} {nt : Nat} {Q : Exit → Env → Hp → Nat → List Deferred → Prop} {E : Env} {h : Hp} {N : Nat} {D : List Deferred}

def thenQ (next : Env → Hp → Nat → List Deferred → Prop) (Q : Exit → Env → Hp → Nat → List Deferred → Prop) : Exit → Env → Hp → Nat → List Deferred → Prop
  | .normal, E, h, N, D => next E h N D
  | e, E, h, N, D => Q e E h N D
def blockQ (id : Nat) (Q : Exit → Env → Hp → Nat → List Deferred → Prop) : Exit → Env → Hp → Nat → List Deferred → Prop
  | .exit id', E, h, N, D => if id' = id then Q .normal E h N D else Q (.exit id') E h N D
  | e, E, h, N, D => Q e E h N D

theorem code_mono {c : Code} {Q' : Exit → Env → Hp → Nat → List Deferred → Prop} (hq : ∀ e E h N D, Q e E h N D → Q' e E h N D) (hh : codeOk P w0 r nt c Q E h N D) : codeOk P w0 r nt c Q' E h N D :=
  fun a w hs he hd hw => wpIn_mono (hh a w hs he hd hw) (fun _ _ _ ⟨h1, h', N', ha, hq1⟩ => ⟨h1, h', N', ha, hq _ _ _ _ _ hq1⟩)

theorem c_seq {x y : Code} (hh : codeOk P w0 r nt x (thenQ (fun E h N D => codeOk P w0 r nt y Q E h N D) Q) E h N D) : codeOk P w0 r nt (.seq x y) Q E h N D := by
  intro a w hs he hd hw
  refine wpIn_seq (wpIn_mono (hh a w hs he hd hw) ?_)
  rintro e a' w' ⟨h1, h', N', ha, hq⟩
  cases e <;> first | exact hq a' w' h1 rfl rfl ha | exact ⟨h1, h', N', ha, hq⟩

theorem c_skip (hh : Q .normal E h N D) : codeOk P w0 r nt .skip Q E h N D :=
  fun a w hs he hd hw => wpIn_skip ⟨hs, h, N, hw, by rw [he, hd]; exact hh⟩
theorem c_label {l : Nat} (hh : Q .normal E h N D) : codeOk P w0 r nt (.label l) Q E h N D :=
  fun a w hs he hd hw => wpIn_label ⟨hs, h, N, hw, by rw [he, hd]; exact hh⟩
theorem c_exit {id : Nat} (hh : Q (.exit id) E h N D) : codeOk P w0 r nt (.exit id) Q E h N D :=
  fun a w hs he hd hw => wpIn_exit ⟨hs, h, N, hw, by rw [he, hd]; exact hh⟩
theorem c_goto {id : Nat} (hh : Q (.goto id) E h N D) : codeOk P w0 r nt (.goto id) Q E h N D :=
  fun a w hs he hd hw => wpIn_goto ⟨hs, h, N, hw, by rw [he, hd]; exact hh⟩
theorem c_ret (hh : Q .ret E h N D) : codeOk P w0 r nt .ret Q E h N D :=
  fun a w hs he hd hw => wpIn_ret ⟨hs, h, N, hw, by rw [he, hd]; exact hh⟩

theorem c_cond_true {c : Operand} {x y : Code} (hc : ev E c = .bool true) (hh : codeOk P w0 r nt x Q E h N D) : codeOk P w0 r nt (.cond c x y) Q E h N D :=
  fun a w hs he hd hw => wpIn_cond_true (by rw [eval_env, he]; exact hc) (hh a w hs he hd hw)
theorem c_cond_false {c : Operand} {x y : Code} (hc : ev E c = .bool false) (hh : codeOk P w0 r nt y Q E h N D) : codeOk P w0 r nt (.cond c x y) Q E h N D :=
  fun a w hs he hd hw => wpIn_cond_false (by rw [eval_env, he]; exact hc) (hh a w hs he hd hw)
theorem c_cond {c : Operand} {x y : Code} {t : Bool} (hc : ev E c = .bool t) (ht : t = true → codeOk P w0 r nt x Q E h N D) (hf : t = false → codeOk P w0 r nt y Q E h N D) : codeOk P w0 r nt (.cond c x y) Q E h N D := by
  cases t with
  | true => exact c_cond_true hc (ht rfl)
  | false => exact c_cond_false hc (hf rfl)
theorem c_cond_prop {c : Operand} {x y : Code} {p : Prop} [Decidable p] (hc : ev E c = .bool (decide p)) (ht : p → codeOk P w0 r nt x Q E h N D) (hf : ¬ p → codeOk P w0 r nt y Q E h N D) : codeOk P w0 r nt (.cond c x y) Q E h N D :=
  c_cond hc (fun e => ht (of_decide_eq_true e)) (fun e => hf (of_decide_eq_false e))

theorem c_block {id : Nat} {c : Code} (hh : codeOk P w0 r nt c (blockQ id Q) E h N D) : codeOk P w0 r nt (.block id c) Q E h N D := by
  intro a w hs he hd hw
  refine wpIn_block (wpIn_mono (hh a w hs he hd hw) ?_)
  rintro e a' w' ⟨h1, h', N', ha, hq⟩
  cases e <;> first | exact ⟨h1, h', N', ha, hq⟩ | skip
  rename_i id'
  simp only [Exit.inBlock]
  simp only [blockQ] at hq
  split
  · rename_i e; rw [if_pos e] at hq; exact ⟨h1, h', N', ha, hq⟩
  · rename_i e; rw [if_neg e] at hq; exact ⟨h1, h', N', ha, hq⟩

theorem c_region {id : Nat} {l : List Oper} (hB : regB nt l = true) (hh : opsOk P w0 r l (fun E h N => Q .normal E h N D) l E h N) : codeOk P w0 r nt (.region id l.toArray false) Q E h N D :=
  fun a w hs he hd hw => wpIn_region_lit (opsOk_list l a w h N hB hs hd hw (by rw [he]; exact hh))

theorem n_then {next : Env → Hp → Nat → List Deferred → Prop} (k : next E h N D) : thenQ next Q .normal E h N D := k
theorem x_then {next : Env → Hp → Nat → List Deferred → Prop} {id : Nat} (k : Q (.exit id) E h N D) : thenQ next Q (.exit id) E h N D := k
theorem r_then {next : Env → Hp → Nat → List Deferred → Prop} (k : Q .ret E h N D) : thenQ next Q .ret E h N D := k
theorem n_block {id : Nat} (k : Q .normal E h N D) : blockQ id Q .normal E h N D := k
theorem r_block {id : Nat} (k : Q .ret E h N D) : blockQ id Q .ret E h N D := k
theorem x_block {id : Nat} (k : Q .normal E h N D) : blockQ id Q (.exit id) E h N D := by simp only [blockQ, if_true]; exact k
theorem x_block_ne {id id' : Nat} (hne : id' ≠ id) (k : Q (.exit id') E h N D) : blockQ id Q (.exit id') E h N D := by simp only [blockQ, if_neg hne]; exact k

theorem least (p : Nat → Prop) (h : ∃ k, p k) : ∃ m, p m ∧ ∀ k, p k → m ≤ k := by
  obtain ⟨k, hk⟩ := h
  induction k using Nat.strongRecOn with
  | _ k ih =>
    by_cases hx : ∃ j, j < k ∧ p j
    · obtain ⟨j, hj, hp⟩ := hx
      exact ih j hj hp
    · refine ⟨k, hk, fun j hj => ?_⟩
      rcases Nat.lt_or_ge j k with h1 | h1
      · exact absurd ⟨j, h1, hj⟩ hx
      · exact h1

theorem c_loop {c : Code} (I : Nat → Env → Hp → Nat → List Deferred → Prop) {k : Nat} (h0 : I k E h N D)
    (round : ∀ k E h N D, I k E h N D → codeOk P w0 r nt c (thenQ (fun E' h' N' D' => ∃ k', k' < k ∧ I k' E' h' N' D') Q) E h N D) : codeOk P w0 r nt (.loop c) Q E h N D := by
  intro a w hs he hd hw
  let J : Nat → Act → World → Prop := fun k a w => a.tmps.size = nt ∧ ∃ h N, At w0 h N w ∧ I k (env a) h N a.defers
  have hJ : ∃ k, J k a w := ⟨k, hs, h, N, hw, by rw [he, hd]; exact h0⟩
  refine wpIn_loop (fun a w => ∃ k, J k a w) (fun a w => open Classical in if hx : ∃ k, J k a w then Classical.choose (least (fun k => J k a w) hx) else 0) hJ ?_
  intro a1 w1 hx
  obtain ⟨hs1, h1, N1, hw1, hI1⟩ := (Classical.choose_spec (least (fun k => J k a1 w1) hx)).1
  refine wpIn_mono (round _ _ _ _ _ hI1 a1 w1 hs1 rfl rfl hw1) ?_
  rintro e a2 w2 ⟨hs2, h2, N2, hw2, hq⟩
  cases e with
  | normal =>
    obtain ⟨k', hlt, hI2⟩ := hq
    have hx2 : ∃ k, J k a2 w2 := ⟨k', hs2, h2, N2, hw2, hI2⟩
    refine ⟨hx2, ?_⟩
    simp only [dif_pos hx, dif_pos hx2]
    exact Nat.lt_of_le_of_lt ((Classical.choose_spec (least (fun k => J k a2 w2) hx2)).2 k' ⟨hs2, h2, N2, hw2, hI2⟩) hlt
  | exit id => exact ⟨hs2, h2, N2, hw2, hq⟩
  | goto id => exact ⟨hs2, h2, N2, hw2, hq⟩
  | ret => exact ⟨hs2, h2, N2, hw2, hq⟩
  | panic ch => exact ⟨hs2, h2, N2, hw2, hq⟩
  | outgrown => exact ⟨hs2, h2, N2, hw2, hq⟩
/-- The heap goes behind a name, with what is known of it. -/
theorem c_heap {c : Code} (F : Hp → Nat → Prop) (hF : F h N) (k : ∀ h N, F h N → codeOk P w0 r nt c Q E h N D) : codeOk P w0 r nt c Q E h N D := k h N hF
/-- What follows is asked at M alone. -/
theorem c_cut {c : Code} (M : Env → Hp → Nat → List Deferred → Prop) (h1 : codeOk P w0 r nt c (thenQ M (fun _ _ _ _ _ => False)) E h N D) (h2 : ∀ E h N D, M E h N D → Q .normal E h N D) : codeOk P w0 r nt c Q E h N D :=
  code_mono (fun e E h N D hq => by cases e <;> first | exact h2 _ _ _ _ hq | exact hq.elim) h1
/-- .. where the piece may also be left otherwise. -/
theorem c_cutX {c : Code} (M : Env → Hp → Nat → List Deferred → Prop) (h1 : codeOk P w0 r nt c (thenQ M Q) E h N D) (h2 : ∀ E h N D, M E h N D → Q .normal E h N D) : codeOk P w0 r nt c Q E h N D :=
  code_mono (fun e E h N D hq => by cases e <;> first | exact h2 _ _ _ _ hq | exact hq) h1
/-- A loop that is left in its first round. -/
theorem c_loop1 {c : Code} (hh : codeOk P w0 r nt c (thenQ (fun _ _ _ _ => False) Q) E h N D) : codeOk P w0 r nt (.loop c) Q E h N D := by
  refine c_loop (fun _ E' h' N' D' => E' = E ∧ h' = h ∧ N' = N ∧ D' = D) (k := 0) ⟨rfl, rfl, rfl, rfl⟩ ?_
  rintro k E' h' N' D' ⟨rfl, rfl, rfl, rfl⟩
  refine code_mono ?_ hh
  intro e E h N D hq
  cases e <;> first | exact hq | exact hq.elim
end
end Sx
end Go.Proofs.YbulkcsqkGreat
