import Derived.Test.YbulkcsqkGreatSxFun
namespace Go.Proofs.YbulkcsqkGreat
namespace Sx

/-! ### A range over a function -/
section
variable {P : Program} {w0 : World} {σ : Type}

/-- A call of yield: the round comes back with a bool. -/
def YieldsTo (P : Program) (w0 : World) (l : Nat) (args : List Value) (h : Hp) (N : Nat) (K : Bool → Hp → Nat → Prop) : Prop :=
  ∀ w, At w0 h N w → ∃ fn tmps asg bd, (Instr.yield l args.toArray).run P w = .ok (.round l fn tmps asg bd) w ∧
    RoundIn (FW none) 0 P l fn tmps asg bd w (back w0 (fun v h' N' => ∃ b, v = .bool b ∧ K b h' N'))

theorem ok_yield {r : Option Nat} {E : Env} {h : Hp} {N : Nat} {K : Value → Hp → Nat → Prop} {d : Option Tmp} {ty : TypeId} {p : String} {af : Array Edge} {g : Option (Nat × Bool)} {fo : Operand} {l : Nat} {xs : Array Operand} {ts : Array TypeId} {args : List Value} {R : Bool → Hp → Nat → Prop}
    (hf : ev E fo = .func (.yield l) #[] #[]) (hy : YieldsTo P w0 l args h N R) (ha : xs.toList.map (ev E) = args) (k : ∀ b h' N', R b h' N' → K (.bool b) h' N') : opOk P w0 r ⟨d, .call { callee := .value fo, args := xs, argTypes := ts }, ty, p, af, g⟩ E h N K := by
  intro w hw
  obtain ⟨fn, tmps, asg, bd, h1, h2⟩ := hy w hw
  have hrun : (execOp (ev E) ⟨d, .call { callee := .value fo, args := xs, argTypes := ts }, ty, p, af, g⟩).run P w = .ok (.round l fn tmps asg bd) w := by
    have ha : #[] ++ xs.map (ev E) = args.toArray := by rw [map_list _ _ ha]; simp
    simp only [execOp, resolve, hf, Deferred.ofValue, Sem.run_bind, Sem.run_pure, Result.andThen, invoke, ha, h1]
  rw [hrun]
  refine RoundIn.mono h2 ?_
  rintro e w' ⟨v, h', N', he, ha, b, rfl, hk⟩
  exact ⟨_, h', N', he, ha, k _ _ _ hk⟩

structure Rec where
  fn : FuncId
  tmps : Array Value
  params : Array Tmp
  asg : Code
  body : Code
  defers : Nat
def Rec.obj (R : Rec) (st : LoopState) (pe : Option Code) : Obj := .loop { state := st, pending := pe, fn := R.fn, tmps := R.tmps, params := R.params, assign := R.asg, body := R.body, defers := R.defers }

/-- Between two rounds. -/
def Live (I : σ → Hp → Nat → Prop) (l : Nat) (R : Rec) (s : σ) (h : Hp) (N : Nat) : Prop :=
  I s h N ∧ h l = some (R.obj .ready none) ∧ h R.defers = some (.deferred (some []))
/-- A round has left by a jump. -/
def Stopped (Ix : Code → Hp → Nat → Prop) (l : Nat) (R : Rec) (h : Hp) (N : Nat) : Prop :=
  ∃ c, Ix c h N ∧ h l = some (R.obj .done (some c)) ∧ h R.defers = some (.deferred (some []))

/-- What a round's body must come to. -/
def roundQ (I : σ → Hp → Nat → Prop) (Ix : Code → Hp → Nat → Prop) (l : Nat) (R : Rec) (s' : σ) : Exit → Env → Hp → Nat → List Deferred → Prop
  | .normal, _, h, N, _ => (h l = some (R.obj .busy none) ∧ h R.defers = some (.deferred (some []))) ∧ I s' h N
  | .ret, _, h, N, _ => (h l = some (R.obj .busy none) ∧ h R.defers = some (.deferred (some []))) ∧ Ix .ret h N
  | .exit id, _, h, N, _ => (h l = some (R.obj .busy none) ∧ h R.defers = some (.deferred (some []))) ∧ Ix (.exit id) h N
  | _, _, _, _, _ => False

def envP (E : Env) : List Nat → List Value → Env
  | p :: ps, v :: vs => envP (upd E p v) ps vs
  | _, _ => E
theorem env_params (nt : Nat) : ∀ (ps : List Nat) (vs : List Value) (tm : Array Value), ps.all (fun p => Nat.blt p nt) = true → tm.size = nt →
    env { tmps := (ps.zip vs).foldl (fun t p => t.setIfInBounds p.1 p.2) tm, defers := [] } = envP (env { tmps := tm, defers := [] }) ps vs ∧ ((ps.zip vs).foldl (fun t p => t.setIfInBounds p.1 p.2) tm).size = nt
  | [], vs, tm, _, hs => by cases vs <;> exact ⟨rfl, hs⟩
  | p :: ps, [], tm, _, hs => ⟨rfl, hs⟩
  | p :: ps, v :: vs, tm, hp, hs => by
    simp only [List.all_cons, Bool.and_eq_true] at hp
    have hlt : p < nt := by have := hp.1; rw [Nat.blt_eq] at this; exact this
    have ih := env_params nt ps vs (tm.setIfInBounds p v) hp.2 (by simpa using hs)
    refine ⟨?_, ih.2⟩
    simp only [List.zip_cons_cons, List.foldl_cons, envP]
    rw [ih.1]
    congr 1
    exact env_put { tmps := tm, defers := [] } v (by rw [hs]; exact hlt)

theorem c_range {nt : Nat} {E : Env} {h : Hp} {N : Nat} {D : List Deferred} {Q : Exit → Env → Hp → Nat → List Deferred → Prop} {go : Operand} {ps : List Tmp} {asg body : Code} {gf : FuncId} {lb : Array Value} (hg : ev E go = .func (.func gf) #[] lb) (he : Enters P gf) (hps : ps.all (fun p => Nat.blt p nt) = true)
    (I : σ → Hp → Nat → Prop) (Ix : Code → Hp → Nat → Prop) (Step : σ → List Value → σ → Prop) (Fin : σ → Prop) (s0 : σ)
    (h0 : ∀ o, (∀ b, N ≤ b → h b = none) → I s0 (hset (hset h N (.deferred (some []))) (N + 1) o) (N + 2))
    (hst : ∀ s h' N' o, I s h' N' → I s (hset h' (N + 1) o) N') (hstx : ∀ c h' N' o, Ix c h' N' → Ix c (hset h' (N + 1) o) N')
    (hargs : ∀ s args s', Step s args s' → args.length = ps.length)
    (hbody : ∀ R s args s' h' N', Step s args s' → R.defers = N → I s h' N' → h' (N + 1) = some (R.obj .ready none) → h' N = some (.deferred (some [])) →
      codeOk P w0 (some (N + 1)) nt asg (thenQ (fun E1 h1 N1 D1 => h1 (N + 1) = some (R.obj .ready none) ∧ codeOk P w0 (some (N + 1)) nt body (roundQ I Ix (N + 1) R s') E1 (hset h1 (N + 1) (R.obj .busy none)) N1 D1) (fun _ _ _ _ _ => False)) (envP E ps args) h' N' [])
    (hiter : ∀ R, R.defers = N → (∀ s args s' h' N', Step s args s' → Live I (N + 1) R s h' N' → YieldsTo P w0 (N + 1) args h' N' (fun b h2 N2 => (b = true ∧ Live I (N + 1) R s' h2 N2) ∨ (b = false ∧ Stopped Ix (N + 1) R h2 N2))) →
      Live I (N + 1) R s0 (hset (hset h N (.deferred (some []))) (N + 1) (R.obj .ready none)) (N + 2) →
      CallsX P w0 gf (Value.func (.yield (N + 1)) #[] #[] :: lb.toList).toArray (hset (hset h N (.deferred (some []))) (N + 1) (R.obj .ready none)) (N + 2) (fun _ h' N' => (∃ s, Fin s ∧ Live I (N + 1) R s h' N') ∨ Stopped Ix (N + 1) R h' N'))
    (hdone : ∀ s h' N', Fin s → I s h' N' → h' N = some (.deferred (some [])) → Q .normal E h' N' ({ target := .collected N, args := #[] } :: D))
    (hstop : ∀ c h' N', Ix c h' N' → h' N = some (.deferred (some [])) → codeOk P w0 none nt c Q E h' N' ({ target := .collected N, args := #[] } :: D)) :
    codeOk P w0 none nt (.rangeFunc go ps.toArray asg body) Q E h N D := by
  intro a w hs hE hd hw
  refine wpIn_rangeFunc ?_
  intro fn _
  have hsz := hw.size
  let R : Rec := { fn := fn, tmps := a.tmps, params := ps.toArray, asg := asg, body := body, defers := N }
  have hw1 : At w0 (hset (hset h N (.deferred (some []))) (N + 1) (R.obj .ready none)) (N + 2) ((w.alloc (.deferred (some []))).alloc (R.obj .ready none)) := (hw.alloc _).alloc _
  have hlive : Live I (N + 1) R s0 (hset (hset h N (.deferred (some []))) (N + 1) (R.obj .ready none)) (N + 2) :=
    ⟨h0 _ (fun b hb => hw.free hb), hset_same _ _ _, by rw [hset_ne _ _ (by show N ≠ N + 1; omega)]; exact hset_same _ _ _⟩
  refine ⟨N + 1, [{ target := .collected N, args := #[] }], (w.alloc (.deferred (some []))).alloc (R.obj .ready none), { target := .fn (.func gf) lb, args := #[.func (.yield (N + 1)) #[] #[]] }, (w.alloc (.deferred (some []))).alloc (R.obj .ready none), gf,
    (Value.func (.yield (N + 1)) #[] #[] :: lb.toList).toArray, (w.alloc (.deferred (some []))).alloc (R.obj .ready none), ?_, ?_, fun _ _ => trivial, ?_, fun hd => by simp [Fence.wide] at hd, ?_⟩
  · have := run_enterLoop_outer (P := P) (w := w) fn a.tmps ps.toArray asg body
    rw [hsz] at this
    exact this
  · have hge : a.eval go = .func (.func gf) #[] lb := by rw [eval_env, hE]; exact hg
    simp only [resolve, hge]
    simp [go_sem]
  · have h1 := he (Value.func (.yield (N + 1)) #[] #[] :: lb.toList).toArray ((w.alloc (.deferred (some []))).alloc (R.obj .ready none))
    have h2 : #[Value.func (.yield (N + 1)) #[] #[]] ++ lb = (Value.func (.yield (N + 1)) #[] #[] :: lb.toList).toArray := by apply Array.ext'; simp
    simp only [invoke, h2, h1]
  · have hY : ∀ s args s' h' N', Step s args s' → Live I (N + 1) R s h' N' → YieldsTo P w0 (N + 1) args h' N' (fun b h2 N2 => (b = true ∧ Live I (N + 1) R s' h2 N2) ∨ (b = false ∧ Stopped Ix (N + 1) R h2 N2)) := by
      rintro s args s' h' N' hstep ⟨hI, hl, hdf⟩ w2 hw2
      have hlen := hargs _ _ _ hstep
      have hy := run_yield (P := P) (w := w2) (l := N + 1) (args := args.toArray) (by rw [hw2.heap]; exact hl) (by simpa [R] using hlen)
      refine ⟨_, _, _, _, hy, roundIn_of_wpIn trivial ?_⟩
      have hp := env_params nt ps args a.tmps hps hs
      have hfold : (R.params.zip args.toArray).foldl (fun tmps (t, a) => tmps.setIfInBounds t a) R.tmps = (ps.zip args).foldl (fun t p => t.setIfInBounds p.1 p.2) a.tmps := by
        simp [R]
      have hcode := hbody R s args s' h' N' hstep rfl hI hl hdf
      have hE2 : env { tmps := (ps.zip args).foldl (fun t p => t.setIfInBounds p.1 p.2) a.tmps, defers := [] } = envP E ps args := by
        rw [hp.1, ← hE]; rfl
      have hrun := hcode { tmps := (ps.zip args).foldl (fun t p => t.setIfInBounds p.1 p.2) a.tmps, defers := [] } w2 hp.2 hE2 rfl hw2
      rw [hfold]
      refine wpIn_mono hrun ?_
      rintro e a3 w3 ⟨hs3, h3, N3, hw3, hq⟩
      cases e <;> first | exact hq.elim | skip
      obtain ⟨hl3, hbd⟩ := hq
      have hb3 := run_beginRound (P := P) (w := w3) (l := N + 1) (by rw [hw3.heap]; exact hl3) rfl
      refine ⟨_, hb3, ?_⟩
      have hw4 : At w0 (hset h3 (N + 1) (R.obj .busy none)) N3 (w3.putObj (N + 1) (R.obj .busy none)) := hw3.set (hw3.lt hl3) _
      refine wpIn_mono (hbd a3 _ hs3 rfl rfl hw4) ?_
      rintro e a5 w5 ⟨hs5, h5, N5, hw5, hq5⟩
      have fin : ∀ jump : Option Code, h5 (N + 1) = some (R.obj .busy none) → (Instr.endRound (N + 1) jump).run P w5 = .ok (.bool jump.isNone) (w5.putObj (N + 1) (R.obj (if jump.isNone then .ready else .done) jump)) ∧ At w0 (hset h5 (N + 1) (R.obj (if jump.isNone then .ready else .done) jump)) N5 (w5.putObj (N + 1) (R.obj (if jump.isNone then .ready else .done) jump)) := by
        intro jump hl5
        exact ⟨run_endRound (P := P) (w := w5) (l := N + 1) (r := { state := .busy, pending := none, fn := R.fn, tmps := R.tmps, params := R.params, assign := R.asg, body := R.body, defers := R.defers }) jump (by rw [hw5.heap]; exact hl5), hw5.set (hw5.lt hl5) _⟩
      have hne : N ≠ N + 1 := by omega
      cases e with
      | normal =>
        obtain ⟨⟨hl5, hd5⟩, hI5⟩ := hq5
        obtain ⟨r1, r2⟩ := fin none hl5
        exact ⟨_, _, r1, _, _, _, rfl, r2, true, rfl, .inl ⟨rfl, hst _ _ _ _ hI5, hset_same _ _ _, by rw [hset_ne _ _ hne]; exact hd5⟩⟩
      | ret =>
        obtain ⟨⟨hl5, hd5⟩, hI5⟩ := hq5
        obtain ⟨r1, r2⟩ := fin (some .ret) hl5
        exact ⟨_, _, r1, _, _, _, rfl, r2, false, rfl, .inr ⟨rfl, .ret, hstx _ _ _ _ hI5, hset_same _ _ _, by rw [hset_ne _ _ hne]; exact hd5⟩⟩
      | exit id =>
        obtain ⟨⟨hl5, hd5⟩, hI5⟩ := hq5
        obtain ⟨r1, r2⟩ := fin (some (.exit id)) hl5
        exact ⟨_, _, r1, _, _, _, rfl, r2, false, rfl, .inr ⟨rfl, .exit id, hstx _ _ _ _ hI5, hset_same _ _ _, by rw [hset_ne _ _ hne]; exact hd5⟩⟩
      | goto id => exact hq5.elim
      | panic ch => exact hq5.elim
      | outgrown => exact hq5.elim
    have hcall := hiter R rfl hY hlive _ hw1
    refine (callsIn_FW (r := none) hcall).mono ?_
    rintro e w3 ⟨v, h3, N3, rfl, hw3, hq⟩
    have hne : N ≠ N + 1 := by omega
    rcases hq with ⟨s, hfin, hI3, hl3, hd3⟩ | ⟨c, hI3, hl3, hd3⟩
    · have hel := run_endLoop (P := P) (w := w3) (l := N + 1) (r := { state := .ready, pending := none, fn := R.fn, tmps := R.tmps, params := R.params, assign := R.asg, body := R.body, defers := R.defers }) (by rw [hw3.heap]; exact hl3) (by simp)
      refine ⟨_, _, hel, hs, _, N3, hw3.set (hw3.lt hl3) (R.obj .exhausted none), ?_⟩
      show Q .normal (env a) _ N3 ({ target := .collected N, args := #[] } :: a.defers)
      rw [hE, hd]
      exact hdone s _ _ hfin (hst _ _ _ _ hI3) (by rw [hset_ne _ _ hne]; exact hd3)
    · have hel := run_endLoop (P := P) (w := w3) (l := N + 1) (r := { state := .done, pending := some c, fn := R.fn, tmps := R.tmps, params := R.params, assign := R.asg, body := R.body, defers := R.defers }) (by rw [hw3.heap]; exact hl3) (by simp)
      refine ⟨_, _, hel, ?_⟩
      have := hstop c _ N3 (hstx _ _ _ (R.obj .exhausted (some c)) hI3) (by rw [hset_ne _ _ hne]; exact hd3)
      exact this { a with defers := [{ target := .collected N, args := #[] }] ++ a.defers } _ hs hE (by simp [hd]) (hw3.set (hw3.lt hl3) (R.obj .exhausted (some c)))
end
end Sx
end Go.Proofs.YbulkcsqkGreat
