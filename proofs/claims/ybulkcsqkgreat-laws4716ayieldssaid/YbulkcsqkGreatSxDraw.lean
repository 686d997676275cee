import Derived.Test.YbulkcsqkGreatSxOps
namespace Go.Proofs.YbulkcsqkGreat
namespace Sx

/-! ### A region that draws its order -/
section
variable {P : Program} {w0 : World} {r : Option Nat} {ops : List Oper} {Q : Env → Hp → Nat → Prop}

/-- What an operation of the level s may do to the heap. -/
def may (s : Nat) (h : Hp) (N : Nat) (h' : Hp) (N' : Nat) : Prop :=
  match s with
  | 0 => h' = h ∧ N' = N
  | 1 => (h' = h ∧ N' = N) ∨ ∃ o, h' = hset h N o ∧ N' = N + 1
  | _ => True

/-- All that lay lies as it lay. -/
def Ext (h h' : Hp) : Prop := ∀ b o, h b = some o → h' b = some o
theorem Ext.refl (h : Hp) : Ext h h := fun _ _ e => e
theorem Ext.trans {a b c : Hp} (h : Ext a b) (k : Ext b c) : Ext a c := fun i o e => k i o (h i o e)
theorem Ext.push {h : Hp} {N : Nat} (hfr : ∀ b, N ≤ b → h b = none) (o : Obj) : Ext h (hset h N o) := by
  intro b o' hb
  have hf := hfr N (Nat.le_refl _)
  rw [hset_ne]
  · exact hb
  · intro e; subst e; rw [hf] at hb; cases hb

theorem Ext.fresh {h h' : Hp} (hx : Ext h h') {b : Nat} (hb : h b = none) (o : Obj) : Ext h (hset h' b o) := by
  intro c o' hc
  rw [hset_ne]
  · exact hx _ _ hc
  · intro e; subst e; rw [hb] at hc; cases hc
/-- All but block b lies as it lay. -/
def ExtBut (b : Nat) (h h' : Hp) : Prop := ∀ c o, c ≠ b → h c = some o → h' c = some o
theorem ExtBut.refl (b : Nat) (h : Hp) : ExtBut b h h := fun _ _ _ e => e
theorem Ext.but {h h' : Hp} (hx : Ext h h') (b : Nat) : ExtBut b h h' := fun c o _ hc => hx c o hc
theorem ExtBut.trans {b : Nat} {h h1 h2 : Hp} (hx : ExtBut b h h1) (hy : ExtBut b h1 h2) : ExtBut b h h2 := fun c o hc hh => hy c o hc (hx c o hc hh)
theorem ExtBut.set {b : Nat} {h h' : Hp} (hx : ExtBut b h h') (o : Obj) : ExtBut b h (hset h' b o) := fun c o' hc hh => by
  rw [hset_ne _ _ hc]; exact hx c o' hc hh

def anyOk (P : Program) (w0 : World) (r : Option Nat) (ops : List Oper) (eff : Nat → Nat) (Q : Env → Hp → Nat → Prop) : Nat → Array Bool → Env → Hp → Nat → Prop
  | 0, listed, E, h, N => Region.ready .any ops.toArray listed = [] ∧ Q E h N
  | f + 1, listed, E, h, N =>
    (Region.ready .any ops.toArray listed = [] → Q E h N) ∧
    ∀ i ∈ Region.ready .any ops.toArray listed, ∀ o, ops[i]? = some o →
      if wantE ops o E = true then opOk P w0 r o E h N (fun v h' N' => may (eff i) h N h' N' ∧ anyOk P w0 r ops eff Q f (listed.setIfInBounds i true) (put E o.dst v) h' N')
      else anyOk P w0 r ops eff Q f (listed.setIfInBounds i true) (put E o.dst undef) h N

theorem anyOk_sound {nt : Nat} {D : List Deferred} {eff : Nat → Nat} {Q : Exit → Env → Hp → Nat → List Deferred → Prop} (hB : regB nt ops = true) : ∀ (f : Nat) (listed : Array Bool) (a : Act) (w : World) (h : Hp) (N : Nat),
    a.tmps.size = nt → a.defers = D → At w0 h N w → anyOk P w0 r ops eff (fun E h N => Q .normal E h N D) f listed (env a) h N → wpAnyIn (FW r) 0 P .any ops.toArray (lift w0 nt Q) f listed a w := by
  intro f
  induction f with
  | zero =>
    intro listed a w h N hs hd hw hh
    exact ⟨hh.1, hs, h, N, hw, by rw [hd]; exact hh.2⟩
  | succ f ih =>
    intro listed a w h N hs hd hw hh
    refine ⟨fun e => ⟨hs, h, N, hw, by rw [hd]; exact hh.1 e⟩, fun i hi => ?_⟩
    unfold wpOpIn
    cases ho : ops[i]? with
    | none =>
      exfalso
      obtain ⟨_, o, ho', _⟩ := mem_ready.1 hi
      rw [List.getElem?_toArray, ho] at ho'; cases ho'
    | some o =>
      have hBo : opB nt o = true := List.all_eq_true.1 hB o (List.mem_of_getElem? ho)
      have h1 := hh.2 i hi o ho
      simp only [List.getElem?_toArray, ho]
      rw [wantE_eq]
      split at h1
      · rename_i hwant
        rw [if_pos hwant]
        refine opOk_wpIn hBo h1 hw ?_
        rintro v h' N' w' ⟨_, hk⟩ hw'
        refine ih _ _ w' h' N' (by rw [size_put]; exact hs) (by rw [defers_put]; exact hd) hw' ?_
        rw [env_put' a hBo hs]
        exact hk
      · rename_i hwant
        rw [if_neg hwant]
        refine ⟨fun _ _ => trivial, ih _ _ w h N (by rw [size_put]; exact hs) (by rw [defers_put]; exact hd) hw ?_⟩
        rw [env_put' a hBo hs]
        exact h1

theorem opOk_mono' {o : Oper} {E : Env} {h : Hp} {N : Nat} {K K' : Value → Hp → Nat → Prop} (hk : ∀ v h' N', (∃ w', At w0 h' N' w') → K v h' N' → K' v h' N') (hh : opOk P w0 r o E h N K) : opOk P w0 r o E h N K' := by
  intro w hw
  have h1 := hh w hw
  generalize (execOp (ev E) o).run P w = x at h1
  have hbk : ∀ e w', back w0 K e w' → back w0 K' e w' := by
    rintro e w' ⟨v, h', N', he, ha, k⟩
    exact ⟨v, h', N', he, ha, hk _ _ _ ⟨_, ha⟩ k⟩
  cases x with
  | halt e w => exact h1
  | ok n w =>
    cases n <;> simp only [resOk] at h1 ⊢
    case value v => obtain ⟨h', N', ha, k⟩ := h1; exact ⟨h', N', ha, hk _ _ _ ⟨_, ha⟩ k⟩
    case skip => obtain ⟨h', N', ha, k⟩ := h1; exact ⟨h', N', ha, hk _ _ _ ⟨_, ha⟩ k⟩
    case enter f args => exact h1.mono hbk
    case round l f tmps asg bd => exact h1.mono hbk

/-- In this frame and heap operation o leaves v in its slot, and the heap alone. -/
def Quiet (P : Program) (w0 : World) (r : Option Nat) (ops : List Oper) (o : Oper) (E : Env) (h : Hp) (N : Nat) (v : Value) : Prop :=
  (wantE ops o E = true ∧ opOk P w0 r o E h N (fun v' h' N' => v' = v ∧ h' = h ∧ N' = N)) ∨ (wantE ops o E = false ∧ v = undef)

theorem ev_put {E : Env} {dst : Option Nat} {v : Value} {x : Operand} (h : ∀ d, dst = some d → x ≠ .tmp d) : ev (put E dst v) x = ev E x := by
  cases dst with
  | none => rfl
  | some d =>
    cases x with
    | tmp t => exact upd_ne _ _ (fun e => h d rfl (by rw [e]))
    | _ => rfl
theorem execOp_putE (o : Oper) (hs : ∀ cs b, o.op ≠ .select cs b) (E : Env) (dst : Option Nat) (v : Value) (h : ∀ d, dst = some d → d ∉ o.looksAt ops.toArray) : execOp (ev (put E dst v)) o = execOp (ev E) o :=
  execOp_congr o hs fun x hx => ev_put fun d hd hxd => h d hd (by
    subst hxd
    exact List.mem_append_left _ (List.mem_filterMap.2 ⟨.tmp d, by simpa using hx, rfl⟩))
theorem wantE_put (o : Oper) (E : Env) (dst : Option Nat) (v : Value) (h : ∀ d, dst = some d → d ∉ o.looksAt ops.toArray) : wantE ops o (put E dst v) = wantE ops o E := by
  cases dst with
  | none => rfl
  | some d =>
    unfold wantE Region.wanted
    cases hg : o.guard with
    | none => rfl
    | some gw =>
      obtain ⟨g, want⟩ := gw
      have hy : yieldE ops (put E (some d) v) g = yieldE ops E g := by
        unfold yieldE
        cases ht : (ops[g]?).bind (·.dst) with
        | none => rfl
        | some t =>
          have hne : t ≠ d := fun e => h d rfl (by subst e; simp [Oper.looksAt, hg, ht])
          simp only [put, upd_ne E v hne]
      simp only [hy]
theorem opOk_put {o : Oper} (hs : ∀ cs b, o.op ≠ .select cs b) {E : Env} {dst : Option Nat} {v : Value} (hd : ∀ d, dst = some d → d ∉ o.looksAt ops.toArray) {h : Hp} {N : Nat} {K : Value → Hp → Nat → Prop} : opOk P w0 r o (put E dst v) h N K ↔ opOk P w0 r o E h N K := by
  unfold opOk
  rw [execOp_putE o hs E dst v hd]
theorem Quiet.put {o : Oper} (hs : ∀ cs b, o.op ≠ .select cs b) {E : Env} {dst : Option Nat} {u v : Value} (hd : ∀ d, dst = some d → d ∉ o.looksAt ops.toArray) {h : Hp} {N : Nat} (hq : Quiet P w0 r ops o E h N v) : Quiet P w0 r ops o (put E dst u) h N v := by
  unfold Quiet at *
  rw [wantE_put o E dst u hd, opOk_put hs hd]
  exact hq
theorem put_comm (E : Env) {x y : Option Nat} (v u : Value) (h : ∀ d, x = some d → y ≠ some d) : put (put E x v) y u = put (put E y u) x v := by
  cases x with
  | none => rfl
  | some d =>
    cases y with
    | none => rfl
    | some e =>
      have hne : d ≠ e := fun he => h d rfl (he ▸ rfl)
      funext t
      simp only [put]
      by_cases h1 : t = e
      · subst h1; rw [upd_same, upd_ne _ _ (fun h => hne h.symm), upd_same]
      · rw [upd_ne _ _ h1]
        by_cases h2 : t = d
        · subst h2; rw [upd_same, upd_same]
        · rw [upd_ne _ _ h2, upd_ne _ _ h2, upd_ne _ _ h1]

/-- WHAT MAKES AN OPERATION ONE THAT MAY BE TAKEN FIRST. 'T': those that must wait for it. 'kd': 2: whatever the heap; 1: in every heap that extends this one. -/
structure Free (ops : List Oper) (eff : Nat → Nat) (listed : Array Bool) (i : Nat) (oi : Oper) (T : Nat → Bool) (lim : Nat) : Prop where
  wait : ∀ j, T j = true → listed.getD j true = false ∧ ∀ oj, ops[j]? = some oj → ∃ e ∈ oj.after, Region.binds .any e = true ∧ (e.on = i ∨ T e.on = true)
  other : ∀ j oj, ops[j]? = some oj → j ≠ i → listed.getD j true = false → T j = false → oi.apart ops.toArray oj = true ∧ eff j ≤ lim

theorem anyOk_first {eff : Nat → Nat} {i : Nat} {oi : Oper} {v : Value} {T : Nat → Bool} {lim : Nat} (hi : ops[i]? = some oi) (hsel : ∀ (j : Nat) (o : Oper) cs b, ops[j]? = some o → o.op ≠ .select cs b) :
    ∀ (f : Nat) (listed : Array Bool) (E : Env) (h : Hp) (N : Nat), Free ops eff listed i oi T lim → i ∈ Region.ready .any ops.toArray listed → T i = false →
      (∃ w, At w0 h N w) → (∀ h' N', (2 ≤ lim ∨ Ext h h') → Quiet P w0 r ops oi E h' N' v) →
      anyOk P w0 r ops eff Q f (listed.setIfInBounds i true) (put E oi.dst v) h N → anyOk P w0 r ops eff Q (f + 1) listed E h N := by
  intro f
  have take : ∀ (f : Nat) (listed : Array Bool) (E : Env) (h : Hp) (N : Nat), (∀ h' N', (2 ≤ lim ∨ Ext h h') → Quiet P w0 r ops oi E h' N' v) → anyOk P w0 r ops eff Q f (listed.setIfInBounds i true) (put E oi.dst v) h N →
      if wantE ops oi E = true then opOk P w0 r oi E h N (fun v h' N' => may (eff i) h N h' N' ∧ anyOk P w0 r ops eff Q f (listed.setIfInBounds i true) (put E oi.dst v) h' N')
      else anyOk P w0 r ops eff Q f (listed.setIfInBounds i true) (put E oi.dst undef) h N := by
    intro f listed E h N hq H
    rcases hq h N (.inr (Ext.refl h)) with ⟨hw, ho⟩ | ⟨hw, rfl⟩
    · rw [if_pos hw]
      refine opOk_mono ?_ ho
      rintro v' h' N' ⟨rfl, rfl, rfl⟩
      refine ⟨?_, H⟩
      unfold may
      split
      · exact ⟨rfl, rfl⟩
      · exact .inl ⟨rfl, rfl⟩
      · trivial
    · rw [if_neg (by simp [hw])]; exact H
  induction f with
  | zero =>
    intro listed E h N hF hr hTi hw hq H
    refine ⟨fun e => (by rw [e] at hr; cases hr), fun j hj oj hoj => ?_⟩
    by_cases hji : j = i
    · subst hji
      rw [hi] at hoj; cases hoj
      exact take 0 listed E h N hq H
    · have := ready_mono hj hji
      rw [H.1] at this
      cases this
  | succ f ih =>
    intro listed E h N hF hr hTi hw hq H
    refine ⟨fun e => (by rw [e] at hr; cases hr), fun j hj oj hoj => ?_⟩
    by_cases hji : j = i
    · subst hji
      rw [hi] at hoj; cases hoj
      exact take (f + 1) listed E h N hq H
    · obtain ⟨hjun, oj', hoj', hall⟩ := mem_ready.1 hj
      rw [List.getElem?_toArray, hoj] at hoj'; cases hoj'
      have hiun := (mem_ready.1 hr).1
      have unl : ∀ k, listed.getD k true = false → listed.getD k false = true → False := by
        intro k h1 h2
        rcases Nat.lt_or_ge k listed.size with h' | h'
        · simp [h'] at h1 h2; rw [h1] at h2; cases h2
        · simp [Array.getElem?_eq_none h'] at h2
      have hTj : T j = false := by
        cases hT : T j with
        | false => rfl
        | true =>
          exfalso
          obtain ⟨e, he, hb, hon⟩ := (hF.wait j hT).2 oj hoj
          have h2 := hall e he hb
          rcases hon with rfl | hon
          · exact unl _ hiun h2
          · exact unl _ (hF.wait _ hon).1 h2
      obtain ⟨hap, hlim⟩ := hF.other j oj hoj hji hjun hTj
      obtain ⟨a1, a2, a3⟩ := Oper.apart_spec hap
      have H2 := H.2 j (ready_mono hj hji) oj hoj
      rw [wantE_put oj E oi.dst v a1] at H2
      have hF' : ∀ {k : Nat}, k = j → Free ops eff (listed.setIfInBounds k true) i oi T lim := by
        rintro k rfl
        refine ⟨fun m hm => ⟨?_, (hF.wait m hm).2⟩, fun m om hom hmi hun hT => hF.other m om hom hmi ?_ hT⟩
        · rw [getD_set_ne true (fun e => by subst e; rw [hTj] at hm; cases hm)]; exact (hF.wait m hm).1
        · by_cases hjm : k = m
          · subst hjm; exact hjun
          · rw [getD_set_ne true hjm] at hun; exact hun
      split at H2
      · rename_i hwant
        rw [if_pos hwant]
        rw [opOk_put (hsel j oj · · hoj) a1] at H2
        refine opOk_mono' ?_ H2
        rintro u h' N' hw' ⟨hmay, hk⟩
        refine ⟨hmay, ih (listed.setIfInBounds j true) (put E oj.dst u) h' N' (hF' rfl) (ready_mono hr (Ne.symm hji)) hTi hw' ?_ ?_⟩
        · intro h2 N2 hx
          refine Quiet.put (hsel i oi · · hi) a3 (hq h2 N2 ?_)
          rcases hx with hx | hx
          · exact .inl hx
          · rcases Nat.lt_or_ge lim 2 with hl | hl
            · right
              refine Ext.trans ?_ hx
              have : eff j = 0 ∨ eff j = 1 := by omega
              rcases this with e | e <;> rw [e] at hmay
              · rw [hmay.1]; exact Ext.refl _
              · rcases hmay with hm | ⟨o, rfl, _⟩
                · rw [hm.1]; exact Ext.refl _
                · obtain ⟨w, hw⟩ := hw
                  exact Ext.push (fun _ hb => hw.free hb) o
            · exact .inl hl
        · rw [Array.setIfInBounds_comm _ _ hji, put_comm E u v (fun d hd e => a2 d e hd)]
          exact hk
      · rename_i hwant
        rw [if_neg hwant]
        refine ih (listed.setIfInBounds j true) (put E oj.dst undef) h N (hF' rfl) (ready_mono hr (Ne.symm hji)) hTi hw ?_ ?_
        · intro h2 N2 hx
          exact Quiet.put (hsel i oi · · hi) a3 (hq h2 N2 hx)
        · rw [Array.setIfInBounds_comm _ _ hji, put_comm E undef v (fun d hd e => a2 d e hd)]
          exact H2

/-! #### A plan: which operation is taken next; a branch for each where several effects stand ready -/
def Tr : Nat → Type
  | 0 => Unit
  | n + 1 => List ((Nat × Nat) × Tr n)

def walk (P : Program) (w0 : World) (r : Option Nat) (ops : List Oper) (effs : List Nat) (Q : Env → Hp → Nat → Prop) : (n : Nat) → Tr n → Env → Hp → Nat → Prop
  | 0, _, E, h, N => Q E h N
  | n + 1, (bs : List ((Nat × Nat) × Tr n)), E, h, N => ∀ b ∈ bs, ∃ o, ops[b.1.1]? = some o ∧
      match b.1.2 with
      | 0 => if wantE ops o E = true then opOk P w0 r o E h N (fun v h' N' => may (effs.getD b.1.1 0) h N h' N' ∧ walk P w0 r ops effs Q n b.2 (put E o.dst v) h' N')
          else walk P w0 r ops effs Q n b.2 (put E o.dst undef) h N
      | 1 => ∃ v, (∀ h' N', Ext h h' → Quiet P w0 r ops o E h' N' v) ∧ walk P w0 r ops effs Q n b.2 (put E o.dst v) h N
      | _ => ∃ v, (∀ h' N', Quiet P w0 r ops o E h' N' v) ∧ walk P w0 r ops effs Q n b.2 (put E o.dst v) h N

def succT (ops : List Oper) (i : Nat) : List Bool :=
  ops.foldl (fun acc o => acc ++ [o.after.any (fun e => Region.binds .any e && (e.on == i || acc.getD e.on false))]) []

def freeB (ops : List Oper) (effs : List Nat) (listed : Array Bool) (i : Nat) (T : List Bool) (lim : Nat) : Bool :=
  !T.getD i false && T.length ≤ ops.length && (List.range ops.length).all fun j =>
    (!T.getD j false || (!listed.getD j true && (match ops[j]? with
      | some oj => oj.after.any (fun e => Region.binds .any e && (e.on == i || T.getD e.on false))
      | none => true))) &&
    (j == i || listed.getD j true || T.getD j false || (match ops[i]?, ops[j]? with
      | some oi, some oj => oi.apart ops.toArray oj && effs.getD j 0 ≤ lim
      | _, _ => false))

def planB (ops : List Oper) (effs : List Nat) : (n : Nat) → Array Bool → Tr n → Bool
  | 0, listed, _ => (Region.ready .any ops.toArray listed).isEmpty
  | n + 1, listed, (bs : List ((Nat × Nat) × Tr n)) =>
    match bs with
    | [((i, k + 1), t)] => (Region.ready .any ops.toArray listed).contains i && freeB ops effs listed i (succT ops i) (min (k + 1) 2) && planB ops effs n (listed.setIfInBounds i true) t
    | bs => bs.all (fun b => b.1.2 == 0 && planB ops effs n (listed.setIfInBounds b.1.1 true) b.2) && (Region.ready .any ops.toArray listed).all (fun j => bs.any (fun b => b.1.1 == j)) && !(Region.ready .any ops.toArray listed).isEmpty

theorem freeB_spec {effs : List Nat} {listed : Array Bool} {i : Nat} {oi : Oper} {T : List Bool} {lim : Nat} (hi : ops[i]? = some oi) (h : freeB ops effs listed i T lim = true) :
    T.getD i false = false ∧ Free ops (fun j => effs.getD j 0) listed i oi (fun j => T.getD j false) lim := by
  simp only [freeB, Bool.and_eq_true, Bool.not_eq_true', decide_eq_true_eq, List.all_eq_true, List.mem_range] at h
  obtain ⟨⟨h1, h2⟩, h3⟩ := h
  have lt : ∀ j, T.getD j false = true → j < ops.length := by
    intro j hj
    rcases Nat.lt_or_ge j T.length with h' | h'
    · omega
    · simp [List.getElem?_eq_none h'] at hj
  refine ⟨h1, ⟨fun j hj => ?_, fun j oj hoj hji hun hT => ?_⟩⟩
  · have := (h3 j (lt j hj)).1
    simp only [Bool.or_eq_true, Bool.not_eq_true', Bool.and_eq_true] at this
    rcases this with e | ⟨e1, e2⟩
    · rw [hj] at e; cases e
    · refine ⟨e1, fun oj hoj => ?_⟩
      rw [hoj] at e2
      simp only [Array.any_eq_true'] at e2
      obtain ⟨e, he, hb⟩ := e2
      simp only [Bool.and_eq_true, Bool.or_eq_true, beq_iff_eq] at hb
      exact ⟨e, he, hb.1, hb.2⟩
  · have hlt : j < ops.length := by
      rcases Nat.lt_or_ge j ops.length with h' | h'
      · exact h'
      · rw [List.getElem?_eq_none h'] at hoj; cases hoj
    have := (h3 j hlt).2
    simp only [Bool.or_eq_true, beq_iff_eq] at this
    rcases this with ((e | e) | e) | e
    · exact absurd e hji
    · rw [hun] at e; cases e
    · rw [hT] at e; cases e
    · rw [hi, hoj] at e
      simp only [Bool.and_eq_true, decide_eq_true_eq] at e
      exact e

theorem plan_sound {effs : List Nat} (hsel : ∀ (j : Nat) (o : Oper) cs b, ops[j]? = some o → o.op ≠ .select cs b) : ∀ (n : Nat) (listed : Array Bool) (t : Tr n) (E : Env) (h : Hp) (N : Nat), planB ops effs n listed t = true → (∃ w, At w0 h N w) →
    walk P w0 r ops effs Q n t E h N → anyOk P w0 r ops (fun j => effs.getD j 0) Q n listed E h N := by
  intro n
  induction n with
  | zero =>
    intro listed t E h N hp _ hh
    simp only [planB, List.isEmpty_iff] at hp
    exact ⟨hp, hh⟩
  | succ n ih =>
    intro listed t E h N hp hw hh
    have eff_case : ∀ (bs : List ((Nat × Nat) × Tr n)), (bs.all (fun b => b.1.2 == 0 && planB ops effs n (listed.setIfInBounds b.1.1 true) b.2) && (Region.ready .any ops.toArray listed).all (fun j => bs.any (fun b => b.1.1 == j)) && !(Region.ready .any ops.toArray listed).isEmpty) = true →
        walk P w0 r ops effs Q (n + 1) bs E h N → anyOk P w0 r ops (fun j => effs.getD j 0) Q (n + 1) listed E h N := by
      intro bs hp hh
      simp only [Bool.and_eq_true, List.all_eq_true, Bool.not_eq_true'] at hp
      obtain ⟨⟨h1, h2⟩, h3⟩ := hp
      refine ⟨fun e => (by rw [e] at h3; cases h3), fun i hi o ho => ?_⟩
      obtain ⟨b, hb, hbi⟩ := List.any_eq_true.1 (h2 i hi)
      have hbi : b.1.1 = i := by simpa using hbi
      obtain ⟨hb0, hb1⟩ := h1 b hb
      have hb0 : b.1.2 = 0 := by simpa using hb0
      obtain ⟨o', ho', hk⟩ := hh b hb
      rw [hbi, ho] at ho'; cases ho'
      rw [hb0] at hk
      subst hbi
      simp only at hk
      split at hk
      · rename_i hwant
        rw [if_pos hwant]
        refine opOk_mono' ?_ hk
        rintro v h' N' hw' ⟨hm, hwk⟩
        exact ⟨hm, ih _ _ _ _ _ hb1 hw' hwk⟩
      · rename_i hwant
        rw [if_neg hwant]
        exact ih _ _ _ _ _ hb1 hw hk
    revert hp hh
    match t with
    | [((i, k + 1), t)] =>
      intro hp hh
      simp only [planB, Bool.and_eq_true] at hp
      obtain ⟨⟨h1, h2⟩, h3⟩ := hp
      obtain ⟨o, ho, hk⟩ := hh ((i, k + 1), t) (List.mem_singleton.2 rfl)
      obtain ⟨hTi, hF⟩ := freeB_spec ho h2
      have hr : i ∈ Region.ready .any ops.toArray listed := by simpa using h1
      match k, hk, hF with
      | 0, hk, hF =>
        obtain ⟨v, hq, hwk⟩ := hk
        exact anyOk_first ho hsel n listed E h N hF hr hTi hw (fun h' N' hx => hq h' N' (hx.resolve_left (by decide))) (ih _ _ _ _ _ h3 hw hwk)
      | k + 1, hk, hF =>
        obtain ⟨v, hq, hwk⟩ := hk
        exact anyOk_first ho hsel n listed E h N hF hr hTi hw (fun h' N' _ => hq h' N') (ih _ _ _ _ _ h3 hw hwk)
    | [] => exact fun hp hh => eff_case [] hp hh
    | [((i, 0), t)] => exact fun hp hh => eff_case [((i, 0), t)] hp hh
    | b1 :: b2 :: bs =>
      intro hp hh
      refine eff_case (b1 :: b2 :: bs) ?_ hh
      obtain ⟨⟨i, k⟩, t⟩ := b1
      cases k <;> exact hp

section
variable {nt : Nat} {Q : Exit → Env → Hp → Nat → List Deferred → Prop} {E : Env} {h : Hp} {N : Nat} {D : List Deferred}
theorem c_draw {id : Nat} {l : List Oper} (hm : P.follows .mixedOrders = true) (effs : List Nat) (n : Nat) (hn : l.length = n) (t : Tr n) (hB : regB nt l = true) (hp : planB l effs n (Array.replicate n false) t = true)
    (hh : walk P w0 r l effs (fun E h N => Q .normal E h N D) n t E h N) : codeOk P w0 r nt (.region id l.toArray true) Q E h N D := by
  intro a w hs he hd hw
  subst hn
  refine wpIn_region_any hm ?_
  have hsel : ∀ (j : Nat) (o : Oper) cs b, l[j]? = some o → o.op ≠ .select cs b := fun j o cs b ho => opB_select (List.all_eq_true.1 hB o (List.mem_of_getElem? ho)) cs b
  have h1 := plan_sound (P := P) (r := r) hsel l.length (Array.replicate l.length false) t E h N hp ⟨w, hw⟩ hh
  have := anyOk_sound hB l.length (Array.replicate l.length false) a { w with drawn := w.drawn + 1 } h N hs hd hw.drew (by rw [he]; exact h1)
  simpa using this
end

/-! #### Steps, in both kinds of region -/
section
variable {E : Env} {h : Hp} {N : Nat} {d : Nat} {op : Op} {ty : TypeId} {p : String} {af : Array Edge} {rest : List Oper} {v : Value} {effs : List Nat} {n i : Nat} {t : Tr n}
theorem o_nil (k : Q E h N) : opsOk P w0 r ops Q [] E h N := k
theorem st (k : opOk P w0 r ⟨some d, op, ty, p, af, none⟩ E h N (fun v h' N' => opsOk P w0 r ops Q rest (upd E d v) h' N')) : opsOk P w0 r ops Q (⟨some d, op, ty, p, af, none⟩ :: rest) E h N := by
  simp only [opsOk, wantE, Region.wanted, if_true]; exact k
theorem st0 (k : opOk P w0 r ⟨none, op, ty, p, af, none⟩ E h N (fun _ h' N' => opsOk P w0 r ops Q rest E h' N')) : opsOk P w0 r ops Q (⟨none, op, ty, p, af, none⟩ :: rest) E h N := by
  simp only [opsOk, wantE, Region.wanted, if_true]; exact k
theorem st_q (hq : opOk P w0 r ⟨some d, op, ty, p, af, none⟩ E h N (fun v' h' N' => v' = v ∧ h' = h ∧ N' = N)) (k : opsOk P w0 r ops Q rest (upd E d v) h N) : opsOk P w0 r ops Q (⟨some d, op, ty, p, af, none⟩ :: rest) E h N :=
  st (opOk_mono (fun _ _ _ ⟨h1, h2, h3⟩ => by subst h1 h2 h3; exact k) hq)
/-- A guarded operation that is carried out. -/
theorem st_g {j : Nat} {bb : Bool} (hg : yieldE ops E j = some bb) (hq : opOk P w0 r ⟨some d, op, ty, p, af, some (j, bb)⟩ E h N (fun v' h' N' => v' = v ∧ h' = h ∧ N' = N)) (k : opsOk P w0 r ops Q rest (upd E d v) h N) : opsOk P w0 r ops Q (⟨some d, op, ty, p, af, some (j, bb)⟩ :: rest) E h N := by
  have hw : wantE ops ⟨some d, op, ty, p, af, some (j, bb)⟩ E = true := by simp [wantE, Region.wanted, hg]
  simp only [opsOk, hw, if_true]
  exact opOk_mono (fun _ _ _ ⟨h1, h2, h3⟩ => by subst h1 h2 h3; exact k) hq
/-- A guarded operation that is passed over. -/
theorem st_s {j : Nat} {bb : Bool} (hg : yieldE ops E j = some (!bb)) (k : opsOk P w0 r ops Q rest (upd E d undef) h N) : opsOk P w0 r ops Q (⟨some d, op, ty, p, af, some (j, bb)⟩ :: rest) E h N := by
  have hw : wantE ops ⟨some d, op, ty, p, af, some (j, bb)⟩ E = false := by cases bb <;> simp [wantE, Region.wanted, hg]
  simp only [opsOk, hw, Bool.false_eq_true, if_false]
  exact k

theorem w_nil {t : Tr 0} (k : Q E h N) : walk P w0 r ops effs Q 0 t E h N := k
/-- An operation that looks at no memory. -/
theorem w_p (ho : ops[i]? = some ⟨some d, op, ty, p, af, none⟩) (hq : ∀ h N, opOk P w0 r ⟨some d, op, ty, p, af, none⟩ E h N (fun v' h' N' => v' = v ∧ h' = h ∧ N' = N)) (k : walk P w0 r ops effs Q n t (upd E d v) h N) : walk P w0 r ops effs Q (n + 1) [((i, 2), t)] E h N := by
  intro b hb
  obtain rfl := List.mem_singleton.1 hb
  exact ⟨_, ho, v, fun h' N' => .inl ⟨rfl, hq h' N'⟩, k⟩
/-- An operation that reads. -/
theorem w_r (ho : ops[i]? = some ⟨some d, op, ty, p, af, none⟩) (hq : ∀ h' N', Ext h h' → opOk P w0 r ⟨some d, op, ty, p, af, none⟩ E h' N' (fun v' h2 N2 => v' = v ∧ h2 = h' ∧ N2 = N')) (k : walk P w0 r ops effs Q n t (upd E d v) h N) : walk P w0 r ops effs Q (n + 1) [((i, 1), t)] E h N := by
  intro b hb
  obtain rfl := List.mem_singleton.1 hb
  exact ⟨_, ho, v, fun h' N' hx => .inl ⟨rfl, hq h' N' hx⟩, k⟩
theorem w_pg {j : Nat} {bb : Bool} (ho : ops[i]? = some ⟨some d, op, ty, p, af, some (j, bb)⟩) (hg : yieldE ops E j = some bb) (hq : ∀ h N, opOk P w0 r ⟨some d, op, ty, p, af, some (j, bb)⟩ E h N (fun v' h' N' => v' = v ∧ h' = h ∧ N' = N)) (k : walk P w0 r ops effs Q n t (upd E d v) h N) : walk P w0 r ops effs Q (n + 1) [((i, 2), t)] E h N := by
  intro b hb
  obtain rfl := List.mem_singleton.1 hb
  exact ⟨_, ho, v, fun h' N' => .inl ⟨by simp [wantE, Region.wanted, hg], hq h' N'⟩, k⟩
theorem w_rg {j : Nat} {bb : Bool} (ho : ops[i]? = some ⟨some d, op, ty, p, af, some (j, bb)⟩) (hg : yieldE ops E j = some bb) (hq : ∀ h' N', Ext h h' → opOk P w0 r ⟨some d, op, ty, p, af, some (j, bb)⟩ E h' N' (fun v' h2 N2 => v' = v ∧ h2 = h' ∧ N2 = N')) (k : walk P w0 r ops effs Q n t (upd E d v) h N) : walk P w0 r ops effs Q (n + 1) [((i, 1), t)] E h N := by
  intro b hb
  obtain rfl := List.mem_singleton.1 hb
  exact ⟨_, ho, v, fun h' N' hx => .inl ⟨by simp [wantE, Region.wanted, hg], hq h' N' hx⟩, k⟩
theorem w_s {j kd : Nat} {bb : Bool} (ho : ops[i]? = some ⟨some d, op, ty, p, af, some (j, bb)⟩) (hg : yieldE ops E j = some (!bb)) (hkd : kd = 1 ∨ kd = 2) (k : walk P w0 r ops effs Q n t (upd E d undef) h N) : walk P w0 r ops effs Q (n + 1) [((i, kd), t)] E h N := by
  intro b hb
  obtain rfl := List.mem_singleton.1 hb
  have hw : wantE ops ⟨some d, op, ty, p, af, some (j, bb)⟩ E = false := by cases bb <;> simp [wantE, Region.wanted, hg]
  rcases hkd with rfl | rfl
  · exact ⟨_, ho, undef, fun h' N' _ => .inr ⟨hw, rfl⟩, k⟩
  · exact ⟨_, ho, undef, fun h' N' => .inr ⟨hw, rfl⟩, k⟩
/-- An effect, alone. -/
theorem w_e (ho : ops[i]? = some ⟨some d, op, ty, p, af, none⟩) (k : opOk P w0 r ⟨some d, op, ty, p, af, none⟩ E h N (fun v h' N' => may (effs.getD i 0) h N h' N' ∧ walk P w0 r ops effs Q n t (upd E d v) h' N')) : walk P w0 r ops effs Q (n + 1) [((i, 0), t)] E h N := by
  intro b hb
  obtain rfl := List.mem_singleton.1 hb
  refine ⟨_, ho, ?_⟩
  simp only [wantE, Region.wanted, if_true]
  exact k
theorem w_e0 (ho : ops[i]? = some ⟨none, op, ty, p, af, none⟩) (k : opOk P w0 r ⟨none, op, ty, p, af, none⟩ E h N (fun _ h' N' => may (effs.getD i 0) h N h' N' ∧ walk P w0 r ops effs Q n t E h' N')) : walk P w0 r ops effs Q (n + 1) [((i, 0), t)] E h N := by
  intro b hb
  obtain rfl := List.mem_singleton.1 hb
  refine ⟨_, ho, ?_⟩
  simp only [wantE, Region.wanted, if_true]
  exact k
theorem w_cons {b : (Nat × Nat) × Tr n} {bs : List ((Nat × Nat) × Tr n)} (k1 : walk P w0 r ops effs Q (n + 1) [b] E h N) (k2 : walk P w0 r ops effs Q (n + 1) bs E h N) : walk P w0 r ops effs Q (n + 1) (b :: bs) E h N := by
  intro c hc
  rcases List.mem_cons.1 hc with rfl | hc
  · exact k1 _ (List.mem_singleton.2 rfl)
  · exact k2 _ hc
theorem w_none : walk P w0 r ops effs Q (n + 1) [] E h N := fun _ hb => by cases hb
end
end
end Sx
end Go.Proofs.YbulkcsqkGreat
