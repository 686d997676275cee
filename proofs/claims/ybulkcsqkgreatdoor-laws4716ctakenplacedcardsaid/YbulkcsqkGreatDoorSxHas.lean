import Derived.Test.YbulkcsqkGreatDoorSxLeaf4
namespace Go.Proofs.YbulkcsqkGreatDoor
namespace Sx

/-- Blocks whose contents are known. -/
@[reducible] def Has (h : Hp) : List (Nat × Obj) → Prop
  | [] => True
  | (b, o) :: l => h b = some o ∧ Has h l
theorem Has.ext {h h' : Hp} (hx : Ext h h') : ∀ {l : List (Nat × Obj)}, Has h l → Has h' l
  | [], _ => trivial
  | (_, _) :: _, hl => ⟨hx _ _ hl.1, Has.ext hx hl.2⟩
theorem Has.off {h : Hp} {b : Nat} {o : Obj} : ∀ {l : List (Nat × Obj)}, (∀ p ∈ l, p.1 ≠ b) → Has h l → Has (hset h b o) l
  | [], _, _ => trivial
  | (c, o') :: _, hn, hl => ⟨(hset_ne _ _ (hn (c, o') (by simp))).trans hl.1, Has.off (fun p hp => hn p (by simp [hp])) hl.2⟩
theorem Has.free {h : Hp} {b : Nat} (hb : h b = none) : ∀ {l : List (Nat × Obj)}, Has h l → ∀ p ∈ l, p.1 ≠ b
  | [], _, _, hp => by cases hp
  | (c, o) :: l, hl, p, hp => by
    rcases List.mem_cons.1 hp with rfl | hp
    · intro e; have h1 := hl.1; simp only at e; rw [e, hb] at h1; cases h1
    · exact Has.free hb hl.2 p hp
def isWords : Obj → Bool
  | .cells _ t _ => Nat.beq t 181
  | _ => false
def noWords : List (Nat × Obj) → Bool
  | [] => true
  | (_, o) :: l => !isWords o && noWords l
theorem Has.words {h : Hp} {b : Nat} {cs : Array Value} {fz : Nat × Nat} (hb : h b = some (.cells cs 181 fz)) : ∀ {l : List (Nat × Obj)}, noWords l = true → Has h l → ∀ p ∈ l, p.1 ≠ b
  | [], _, _, _, hp => by cases hp
  | (c, o) :: l, hw, hl, p, hp => by
    simp only [noWords, Bool.and_eq_true] at hw
    rcases List.mem_cons.1 hp with rfl | hp
    · intro e
      have h1 := hl.1
      simp only at e
      rw [e, hb] at h1
      cases h1
      exact absurd hw.1 (by simp [isWords])
    · exact Has.words hb hw.2 hl.2 p hp

/-- All but two blocks lies as it lay. -/
def Ext2 (b c : Nat) (h h' : Hp) : Prop := ∀ d o, d ≠ b → d ≠ c → h d = some o → h' d = some o
def Us (h : Hp) (b n : Nat) : Prop := ∃ cs, h b = some (.cells cs 181 (0, 0)) ∧ U64s cs ∧ cs.size = n
theorem Us.ext {h h' : Hp} {b n : Nat} (hu : Us h b n) (hx : Ext h h') : Us h' b n := by
  obtain ⟨cs, h1, h2⟩ := hu; exact ⟨cs, hx _ _ h1, h2⟩
theorem Us.off {h : Hp} {b c n : Nat} {o : Obj} (hu : Us h b n) (hx : b ≠ c) : Us (hset h c o) b n := by
  obtain ⟨cs, h1, h2⟩ := hu; exact ⟨cs, (hset_ne _ _ hx).trans h1, h2⟩

structure FI (h0 : Hp) (rb cb n : Nat) (L : List (Nat × Obj)) (h : Hp) : Prop where
  has : Has h L
  x : Ext2 rb cb h0 h
  ru : Us h rb n
  cu : Us h cb n
  ne : rb ≠ cb
section
variable {h0 h h' : Hp} {rb cb n b j : Nat} {L : List (Nat × Obj)} {o : Obj} {cs : Array Value} {x : Int}
theorem FI.ext (hf : FI h0 rb cb n L h) (hx : Ext h h') : FI h0 rb cb n L h' :=
  ⟨hf.has.ext hx, fun d o a b c => hx _ _ (hf.x d o a b c), hf.ru.ext hx, hf.cu.ext hx, hf.ne⟩
theorem FI.cons (hf : FI h0 rb cb n L h) (hb : h b = some o) : FI h0 rb cb n ((b, o) :: L) h :=
  ⟨⟨hb, hf.has⟩, hf.x, hf.ru, hf.cu, hf.ne⟩
theorem FI.push {N : Nat} (hf : FI h0 rb cb n L h) (hN : ∀ b, N ≤ b → h b = none) (o : Obj) : FI h0 rb cb n ((N, o) :: L) (hset h N o) :=
  (hf.ext (Ext.push hN o)).cons (hset_same _ _ _)
theorem FI.rset (hf : FI h0 rb cb n L h) (hw : noWords L = true) (hb : h rb = some (.cells cs 181 (0, 0))) : FI h0 rb cb n L (hset h rb (.cells (setA cs j (.int .u64 x)) 181 (0, 0))) := by
  obtain ⟨cs', h1, h2, h3⟩ := hf.ru
  rw [hb] at h1; cases h1
  exact ⟨hf.has.off (hf.has.words hb hw), fun d o a b c => (hset_ne _ _ a).trans (hf.x d o a b c), ⟨_, hset_same _ _ _, h2.set _ _, by simp [h3]⟩, hf.cu.off hf.ne.symm, hf.ne⟩
theorem FI.cset (hf : FI h0 rb cb n L h) (hw : noWords L = true) (hb : h cb = some (.cells cs 181 (0, 0))) : FI h0 rb cb n L (hset h cb (.cells (setA cs j (.int .u64 x)) 181 (0, 0))) := by
  obtain ⟨cs', h1, h2, h3⟩ := hf.cu
  rw [hb] at h1; cases h1
  exact ⟨hf.has.off (hf.has.words hb hw), fun d o a b c => (hset_ne _ _ b).trans (hf.x d o a b c), hf.ru.off hf.ne, ⟨_, hset_same _ _ _, h2.set _ _, by simp [h3]⟩, hf.ne⟩
theorem lay_zero (hs : cs.size = n) : U64s (lay cs 0 (List.replicate n (.int .u64 0))) := by
  intro j hj
  have hj2 : j < n := by rw [lay_size _ _ _ (by simp; omega)] at hj; omega
  refine ⟨0, ?_⟩
  simp [lay, List.getElem?_append, hj2]
theorem FI.rclear (hf : FI h0 rb cb n L h) (hw : noWords L = true) (hb : h rb = some (.cells cs 181 (0, 0))) : FI h0 rb cb n L (hset h rb (.cells (lay cs 0 (List.replicate n (.int .u64 0))) 181 (0, 0))) := by
  obtain ⟨cs', h1, h2, h3⟩ := hf.ru
  rw [hb] at h1; cases h1
  exact ⟨hf.has.off (hf.has.words hb hw), fun d o a b c => (hset_ne _ _ a).trans (hf.x d o a b c), ⟨_, hset_same _ _ _, lay_zero h3, by rw [lay_size _ _ _ (by simp; omega)]; exact h3⟩, hf.cu.off hf.ne.symm, hf.ne⟩
theorem FI.cclear (hf : FI h0 rb cb n L h) (hw : noWords L = true) (hb : h cb = some (.cells cs 181 (0, 0))) : FI h0 rb cb n L (hset h cb (.cells (lay cs 0 (List.replicate n (.int .u64 0))) 181 (0, 0))) := by
  obtain ⟨cs', h1, h2, h3⟩ := hf.cu
  rw [hb] at h1; cases h1
  exact ⟨hf.has.off (hf.has.words hb hw), fun d o a b c => (hset_ne _ _ b).trans (hf.x d o a b c), hf.ru.off hf.ne, ⟨_, hset_same _ _ _, lay_zero h3, by rw [lay_size _ _ _ (by simp; omega)]; exact h3⟩, hf.ne⟩
theorem FI.other (hf : FI h0 rb cb n L h) (hL : ∀ p ∈ L, p.1 ≠ b) (hr : rb ≠ b) (hc : cb ≠ b) (h0b : h0 b = none) : FI h0 rb cb n L (hset h b o) :=
  ⟨hf.has.off hL, fun d o a b' c => (hset_ne _ _ (fun e => by rw [e, h0b] at c; cases c)).trans (hf.x d o a b' c), hf.ru.off hr, hf.cu.off hc, hf.ne⟩
theorem hset_self (hb : h b = some o) : hset h b o = h := by
  funext x; simp only [hset]; split
  · rename_i e; rw [e, hb]
  · rfl
end
end Sx
end Go.Proofs.YbulkcsqkGreatDoor
