import Derived.Test.YbulkcsqkGreatSxCyc2
namespace Go.Proofs.YbulkcsqkGreat
namespace Sx
set_option maxRecDepth 10000
set_option maxHeartbeats 1000000
variable {w0 : World}
section
variable {h m X : Hp} {N : Nat}
/-- What a round of the range back must come to. -/
def backQ (X : Hp) (nd : Nat) (I : Nat → Hp → Prop) (j : Nat) : Exit → Env → Hp → Nat → List Deferred → Prop
  | .normal, _, h, _, _ => ∃ m, Sep m X h ∧ m nd = some (.deferred (some [])) ∧ I j m
  | _, _, _, _, _ => False

theorem c_back {nt : Nat} {E : Env} {D : List Deferred} {Q : Exit → Env → Hp → Nat → List Deferred → Prop} {go : Operand} {p p2 : Tmp} {asg body : Code} {bb ob n c : Nat} {xs : Array Value} {te : TypeId} {fz : Nat × Nat} (f : Nat → Nat) (hg : ev E go = .func (.func 51) #[] #[.pointer (some ⟨bb, 0, none⟩)]) (hp : (Nat.blt p nt && Nat.blt p2 nt) = true) (hbb : X bb = some (.cells #[.slice (some ⟨ob, 0, none⟩) n c] 34 (0, 0))) (hob : X ob = some (.cells xs te fz)) (hxs : ∀ j, j < n → xs[j]? = some (.int .i64 (f j : Int))) (hl : n ≤ 1000) (hS : Sep m X h)
    (I : Nat → Hp → Prop) (q : Nat) (h0 : m N = none → I n (hset m N (.deferred (some []))))
    (hasg : ∀ (j : Nat) (h' : Hp) (N' : Nat) (r : Option Nat) (Q' : Exit → Env → Hp → Nat → List Deferred → Prop), Q' .normal (upd (upd (upd E p (.int .i64 (j : Int))) p2 (.int .i64 (f j : Int))) q (.int .i64 (f j : Int))) h' N' [] → codeOk Ybaz.prog w0 r nt asg Q' (upd (upd E p (.int .i64 (j : Int))) p2 (.int .i64 (f j : Int))) h' N' [])
    (hbody : ∀ (j : Nat) (m' h' : Hp) (N' : Nat) (o : Obj) (r : Option Nat), j < n → I (j + 1) m' → m' N = some (.deferred (some [])) → Sep m' (hset X (N + 1) o) h' → Ext X (hset X (N + 1) o) → codeOk Ybaz.prog w0 r nt body (backQ (hset X (N + 1) o) N I j) (upd (upd (upd E p (.int .i64 (j : Int))) p2 (.int .i64 (f j : Int))) q (.int .i64 (f j : Int))) h' N' [])
    (hdone : ∀ m' h' N', I 0 m' → Sep m' X h' → m' N = some (.deferred (some [])) → Q .normal E h' N' (mark N :: D)) :
    codeOk Ybaz.prog w0 none nt (.rangeFunc go #[p, p2] asg body) Q E h N D := by
  by_cases hfree : ∀ b, N ≤ b → h b = none
  case neg =>
    refine c_range (σ := Nat) (gf := 51) (ps := [p, p2]) (lb := #[.pointer (some ⟨bb, 0, none⟩)]) hg ent51 (by simp only [List.all_cons, List.all_nil, Bool.and_true]; exact hp) (fun _ _ _ => False) (fun _ _ _ => False) (fun _ _ _ => False) (fun _ => False) 0 (fun _ hf => hfree hf) (fun _ _ _ _ x => x) (fun _ _ _ _ x => x) (fun _ _ _ x => x.elim) (fun _ _ _ _ _ _ x => x.elim) (fun _ _ _ x => x.1.elim) (fun _ _ _ x => x.elim) (fun _ _ _ x => x.elim)
  have fd := hfree N (Nat.le_refl _)
  have fl := hfree (N + 1) (by omega)
  have xl : X (N + 1) = none := hS.oth.back fl
  have hXo : ∀ o, Ext X (hset X (N + 1) o) := fun o => (Ext.refl X).fresh xl _
  refine c_range (σ := Nat) (gf := 51) (ps := [p, p2]) (lb := #[.pointer (some ⟨bb, 0, none⟩)]) hg ent51 (by simp only [List.all_cons, List.all_nil, Bool.and_true]; exact hp)
    (fun j h' _ => ∃ m, Sep m X h' ∧ m N = some (.deferred (some [])) ∧ m (N + 1) = none ∧ I j m)
    (fun _ _ _ => False)
    (fun j args j' => j' < n ∧ j = j' + 1 ∧ args = [.int .i64 (j' : Int), .int .i64 (f j' : Int)]) (fun j => j = 0) n ?_ ?_ ?_ ?_ ?_ ?_ ?_ ?_
  · intro o _
    exact ⟨_, (hS.new fd _).fresh ((hset_ne _ _ (by omega)).trans fl) _, hset_same _ _ _, (hset_ne _ _ (by omega)).trans (hS.own.back fl), h0 (hS.own.back fd)⟩
  · rintro s h' N' o ⟨m, hS, a1, a2, a3⟩
    exact ⟨m, hS.setO a2 xl o, a1, a2, a3⟩
  · intro _ _ _ _ x; exact x
  · rintro s args s' ⟨_, _, rfl⟩; rfl
  · rintro Rc j args j' h' N' ⟨hj, rfl, rfl⟩ hRd ⟨m, hS, a1, a2, a3⟩ hlr hd
    refine hasg j' h' N' _ _ (n_then ⟨hlr, ?_⟩)
    have hS2 : Sep m (hset X (N + 1) (Rc.obj .busy none)) (hset h' (N + 1) (Rc.obj .busy none)) := (hS.setO a2 xl _).takeX (hset_same _ _ _) a2
    refine code_mono ?_ (hbody j' m _ N' (Rc.obj .busy none) _ hj a3 a1 hS2 (hXo _))
    intro e E2 h2 N2 D2 hq
    cases e with
    | normal =>
      obtain ⟨m2, hS3, c1, c2⟩ := hq
      refine ⟨⟨hS3.oth _ _ (hset_same _ _ _), by rw [hRd]; exact hS3.own _ _ c1⟩, m2, hS3.dropX (hXo _), c1, ?_, c2⟩
      exact hS3.notm (hset_same _ _ _)
    | exit id => exact hq.elim
    | ret => exact hq.elim
    | goto id => exact hq.elim
    | panic ch => exact hq.elim
    | outgrown => exact hq.elim
  · intro Rc hRd hYl hlive
    refine (backIter_ok (l := N + 1) (ob := ob) (c := c) (te := te) (fz := fz) (J := fun j h' N' => Live (fun (j : Nat) h' (_ : Nat) => ∃ m, Sep m X h' ∧ m N = some (.deferred (some [])) ∧ m (N + 1) = none ∧ I j m) (N + 1) Rc j h' N')
      (Jx := fun h' N' => Stopped (fun _ _ _ => False) (N + 1) Rc h' N') (fun j => (f j : Int)) (by omega) ?_ hxs ?_ hlive).mono ?_
    · rintro j h' N' ⟨⟨m, hS, _⟩, _⟩; exact ⟨hS.oth _ _ hbb, hS.oth _ _ hob⟩
    · intro j h' N' hj hv
      exact hYl (j + 1) _ j h' N' ⟨hj, rfl, rfl⟩ hv
    · rintro _ h' N' (hv | hv)
      · exact .inl ⟨_, rfl, hv⟩
      · exact .inr hv
  · rintro j h' N' rfl ⟨m, hS, a1, a2, a3⟩ _
    exact hdone m h' N' a3 hS a1
  · intro _ _ _ x; exact x.elim

theorem Sep.grab {b : Nat} {o : Obj} (hS : Sep m (hset X b o) h) (hb : X b = none) : Sep (hset m b o) X h := by
  refine ⟨fun c o' hc => ?_, fun c o' hc => ?_, fun c => ?_⟩
  · by_cases e : c = b
    · subst e; rw [hset_same] at hc; cases hc; exact hS.oth _ _ (hset_same _ _ _)
    · rw [hset_ne _ _ e] at hc; exact hS.own _ _ hc
  · have e : c ≠ b := ne_of_none hc hb
    exact hS.oth _ _ ((hset_ne _ _ e).trans hc)
  · by_cases e : c = b
    · exact .inr (by rw [e]; exact hb)
    · rw [hset_ne _ _ e]
      have := hS.dis c
      rwa [hset_ne _ _ e] at this
/-- A row of ours is lent for a call that reads it. -/
theorem own_lend {v : Value} {xs : List Nat} (hS : Sep m X h) (ho : Own m 3 1 v (ints xs)) : ∃ m1 X1, Sep m1 X1 h ∧ Own X1 3 1 v (ints xs) ∧ Ext X X1 ∧ (∀ c o, m c = some o → blk v ≠ some c → m1 c = some o) ∧
    ∀ m2 h2, Sep m2 X1 h2 → ∃ m3, Sep m3 X h2 ∧ Own m3 3 1 v (ints xs) ∧ (∀ c o, m2 c = some o → m3 c = some o) ∧ (∀ c o, m c = some o → blk v = some c → m3 c = some o) := by
  rcases ho with h1 | ⟨b, n, c, cs, rfl, h2, h3⟩
  · exact ⟨m, X, hS, .inl h1, Ext.refl X, fun c o hc _ => hc, fun m2 h2 hS2 => ⟨m2, hS2, .inl h1, fun _ _ hc => hc, fun c o _ hb => by rw [h1.1] at hb; cases hb⟩⟩
  · refine ⟨_, _, hS.give h2, .inr ⟨b, n, c, cs, rfl, hset_same _ _ _, h3⟩, (Ext.refl X).fresh (hS.noX h2) _, fun d o hd hb => ?_, fun m2 h2' hS2 => ?_⟩
    · rw [del_ne _ (fun e => hb (by rw [e]; rfl))]; exact hd
    · refine ⟨_, hS2.grab (hS.noX h2), .inr ⟨b, n, c, cs, rfl, hset_same _ _ _, h3⟩, fun d o hd => ?_, fun d o hd hb => ?_⟩
      · have e : d ≠ b := fun e => by
          have := hS2.notm (hset_same X b (.cells cs 3 (0, 0)))
          rw [e, this] at hd; cases hd
        rw [hset_ne _ _ e]; exact hd
      · cases hb; rw [hset_same, ← hd, h2]
/-- What was lent to the others comes back. -/
def sub (X mp : Hp) : Hp := fun c => match mp c with
  | none => X c
  | some _ => none
theorem sub_eq {X mp : Hp} {c : Nat} (hc : mp c = none) : sub X mp c = X c := by simp only [sub, hc]
theorem Sep.unlend {mp : Hp} (hS : Sep m X h) (hp : Ext mp X) : Sep (uni mp m) (sub X mp) h ∧ Ext m (uni mp m) := by
  have hd : ∀ c, mp c = none ∨ m c = none := fun c => by
    rcases hS.dis c with e | e
    · exact .inr e
    · exact .inl (hp.back e)
  refine ⟨⟨fun c o e => ?_, fun c o e => ?_, fun c => ?_⟩, uni_r hd⟩
  · simp only [uni] at e
    split at e
    · rename_i o' h1; cases e; exact hS.oth _ _ (hp _ _ h1)
    · exact hS.own _ _ e
  · simp only [sub] at e
    split at e
    · exact hS.oth _ _ e
    · cases e
  · cases e : mp c with
    | none =>
      rw [sub_eq e]
      rcases hS.dis c with e2 | e2
      · exact .inl (uni_none e e2)
      · exact .inr e2
    | some o => exact .inr (by simp only [sub, e])
end
end Sx
end Go.Proofs.YbulkcsqkGreat
