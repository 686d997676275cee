import Derived.Test.YbulkcsqkGreatDoorSxFill
namespace Go.Proofs.YbulkcsqkGreatDoor
namespace Sx

theorem ne_of_ty {h : Hp} {a b : Nat} {x y : Array Value} {s t : TypeId} {f g : Nat × Nat} (ha : h a = some (.cells x s f)) (hb : h b = some (.cells y t g)) (hst : Nat.beq s t = false) : a ≠ b := by
  intro e
  rw [e, hb] at ha
  cases ha
  simp at hst

/-! ### Fields that are known -/
@[reducible] def Flds (rc : Array Value) : List (Nat × Value) → Prop
  | [] => True
  | (i, v) :: l => rc[i]? = some v ∧ Flds rc l
def noIdx (i : Nat) : List (Nat × Value) → Bool
  | [] => true
  | (j, _) :: l => !Nat.beq i j && noIdx i l
def noRng (o k : Nat) : List (Nat × Value) → Bool
  | [] => true
  | (j, _) :: l => (Nat.blt j o || Nat.ble (o + k) j) && noRng o k l
theorem Flds.set {rc : Array Value} {i : Nat} {v : Value} : ∀ {l : List (Nat × Value)}, noIdx i l = true → Flds rc l → Flds (setA rc i v) l
  | [], _, _ => trivial
  | (j, _) :: l, hn, hl => by
    simp only [noIdx, Bool.and_eq_true] at hn
    refine ⟨?_, Flds.set hn.2 hl.2⟩
    rw [setA_ne]
    · exact hl.1
    · intro e; subst e; simp at hn
theorem lay_ne {cs : Array Value} {o i : Nat} {vs : List Value} (h : o + vs.length ≤ cs.size) (hi : i < o ∨ o + vs.length ≤ i) : (lay cs o vs)[i]? = cs[i]? := by
  simp only [lay, List.getElem?_toArray]
  rw [← Array.getElem?_toList]
  rcases hi with hi | hi
  · rw [List.getElem?_append_left (by simp; omega), List.getElem?_take]
    simp [hi]
  · rw [List.getElem?_append_right (by simp; omega), List.getElem?_append_right (by simp; omega), List.getElem?_drop]
    congr 1
    simp only [List.length_take, Array.length_toList]
    omega
theorem Flds.lay {rc : Array Value} {o : Nat} {vs : List Value} (h : o + vs.length ≤ rc.size) : ∀ {l : List (Nat × Value)}, noRng o vs.length l = true → Flds rc l → Flds (lay rc o vs) l
  | [], _, _ => trivial
  | (j, _) :: l, hn, hl => by
    simp only [noRng, Bool.and_eq_true, Bool.or_eq_true] at hn
    refine ⟨?_, Flds.lay h hn.2 hl.2⟩
    rw [lay_ne h]
    · exact hl.1
    · rcases hn.1 with h1 | h1
      · exact .inl (Nat.blt_eq ▸ h1)
      · exact .inr (Nat.le_of_ble_eq_true h1)

def isTy (t : Nat) : Obj → Bool
  | .cells _ s _ => Nat.beq s t
  | _ => false
def noT (t : Nat) : List (Nat × Obj) → Bool
  | [] => true
  | (_, o) :: l => !isTy t o && noT t l
theorem Has.noT {h : Hp} {b t : Nat} {cs : Array Value} {fz : Nat × Nat} (hb : h b = some (.cells cs t fz)) : ∀ {l : List (Nat × Obj)}, noT t l = true → Has h l → ∀ p ∈ l, p.1 ≠ b
  | [], _, _, _, hp => by cases hp
  | (c, o) :: l, hw, hl, p, hp => by
    simp only [Sx.noT, Bool.and_eq_true] at hw
    rcases List.mem_cons.1 hp with rfl | hp
    · intro e
      have h1 := hl.1
      simp only at e
      rw [e, hb] at h1
      cases h1
      exact absurd hw.1 (by simp [isTy])
    · exact Has.noT hb hw.2 hl.2 p hp

def Ext3 (a b c : Nat) (h h' : Hp) : Prop := ∀ d o, d ≠ a → d ≠ b → d ≠ c → h d = some o → h' d = some o
structure RI (h0 : Hp) (br rb cb : Nat) (l : List (Nat × Value)) (L : List (Nat × Obj)) (h : Hp) (rc : Array Value) : Prop where
  r : h br = some (.cells rc 70 (0, 0))
  sz : rc.size = 83
  f : Flds rc l
  has : Has h L
  x : Ext3 br rb cb h0 h
section
variable {h0 h h' : Hp} {br rb cb n b i N : Nat} {l : List (Nat × Value)} {L : List (Nat × Obj)} {o : Obj} {rc : Array Value} {v : Value}
theorem RI.ext (hf : RI h0 br rb cb l L h rc) (hx : Ext h h') : RI h0 br rb cb l L h' rc :=
  ⟨hx _ _ hf.r, hf.sz, hf.f, hf.has.ext hx, fun d o a b c e => hx _ _ (hf.x d o a b c e)⟩
theorem RI.cons (hf : RI h0 br rb cb l L h rc) (hb : h b = some o) : RI h0 br rb cb l ((b, o) :: L) h rc :=
  ⟨hf.r, hf.sz, hf.f, ⟨hb, hf.has⟩, hf.x⟩
theorem RI.push (hf : RI h0 br rb cb l L h rc) (hN : ∀ b, N ≤ b → h b = none) (o : Obj) : RI h0 br rb cb l ((N, o) :: L) (hset h N o) rc :=
  (hf.ext (Ext.push hN o)).cons (hset_same _ _ _)
theorem RI.setf (hf : RI h0 br rb cb l L h rc) (i : Nat) (v : Value) (hi : i < 83) (hn : noIdx i l = true) (hL : noT 70 L = true) : RI h0 br rb cb ((i, v) :: l) L (hset h br (.cells (setA rc i v) 70 (0, 0))) (setA rc i v) :=
  ⟨hset_same _ _ _, by rw [setA_size]; exact hf.sz, ⟨setA_same _ _ (by rw [hf.sz]; exact hi), hf.f.set hn⟩, hf.has.off (hf.has.noT hf.r hL), fun d o a b c e => (hset_ne _ _ a).trans (hf.x d o a b c e)⟩
theorem RI.setk (hf : RI h0 br rb cb l L h rc) (i : Nat) (v : Value) (hi : i < 83) (hn : noIdx i l = true) (hL : noT 70 L = true) : RI h0 br rb cb l L (hset h br (.cells (setA rc i v) 70 (0, 0))) (setA rc i v) :=
  let x := hf.setf i v hi hn hL
  ⟨x.r, x.sz, x.f.2, x.has, x.x⟩
theorem RI.re (hf : RI h0 br rb cb l L h rc) {l' : List (Nat × Value)} {L' : List (Nat × Obj)} (h1 : Flds rc l') (h2 : Has h L') : RI h0 br rb cb l' L' h rc :=
  ⟨hf.r, hf.sz, h1, h2, hf.x⟩
theorem RI.keep (hf : RI h0 br rb cb l L h rc) (i : Nat) (v : Value) {x : Array Value} {f : Nat × Nat} (hb : h b = some (.cells x 25 f)) : (hset h br (.cells (setA rc i v) 70 (0, 0))) b = some (.cells x 25 f) :=
  (hset_ne _ _ (ne_of_ty hb hf.r rfl)).trans hb
theorem RI.layf (hf : RI h0 br rb cb l L h rc) (i : Nat) (vs : List Value) (hi : i + vs.length ≤ 83) (hn : noRng i vs.length l = true) (hL : noT 70 L = true) : RI h0 br rb cb l L (hset h br (.cells (lay rc i vs) 70 (0, 0))) (lay rc i vs) :=
  ⟨hset_same _ _ _, by rw [lay_size _ _ _ (by rw [hf.sz]; exact hi)]; exact hf.sz, hf.f.lay (by rw [hf.sz]; exact hi) hn, hf.has.off (hf.has.noT hf.r hL), fun d o a b c e => (hset_ne _ _ a).trans (hf.x d o a b c e)⟩
theorem RI.fill (hf : RI h0 br rb cb l L h rc) (hx : Ext2 rb cb h h') (hr : Us h rb n) (hc : Us h cb n) (hL : noT 181 L = true) : RI h0 br rb cb l L h' rc := by
  obtain ⟨cs, h1, _⟩ := hr
  obtain ⟨ds, h2, _⟩ := hc
  have n1 := hf.has.noT h1 hL
  have n2 := hf.has.noT h2 hL
  refine ⟨hx _ _ (ne_of_ty hf.r h1 rfl) (ne_of_ty hf.r h2 rfl) hf.r, hf.sz, hf.f, ?_, fun d o a b c e => hx _ _ b c (hf.x d o a b c e)⟩
  have : ∀ l : List (Nat × Obj), (∀ p ∈ l, p.1 ≠ rb) → (∀ p ∈ l, p.1 ≠ cb) → Has h l → Has h' l := by
    intro l
    induction l with
    | nil => intro _ _ _; trivial
    | cons p l ih =>
      obtain ⟨c, o⟩ := p
      intro a b hl
      exact ⟨hx _ _ (a (c, o) (by simp)) (b (c, o) (by simp)) hl.1, ih (fun p hp => a p (by simp [hp])) (fun p hp => b p (by simp [hp])) hl.2⟩
  exact this L n1 n2 hf.has
theorem RI.other (hf : RI h0 br rb cb l L h rc) (hL : ∀ p ∈ L, p.1 ≠ b) (hr : b ≠ br) (h0b : h0 b = none ∨ b = rb ∨ b = cb) : RI h0 br rb cb l L (hset h b o) rc := by
  refine ⟨(hset_ne _ _ hr.symm).trans hf.r, hf.sz, hf.f, hf.has.off hL, fun d o a b' c e => (hset_ne _ _ (fun x => ?_)).trans (hf.x d o a b' c e)⟩
  subst x
  rcases h0b with h1 | h1 | h1
  · rw [h1] at e; cases e
  · exact b' h1
  · exact c h1
theorem RI.fresh (hf : RI h0 br rb cb l L h rc) (hb : h b = none) : (∀ p ∈ L, p.1 ≠ b) ∧ b ≠ br ∧ (h0 b = none ∨ b = rb ∨ b = cb) := by
  have e : b ≠ br := fun e => by rw [e, hf.r] at hb; cases hb
  refine ⟨hf.has.free hb, e, ?_⟩
  by_cases h1 : b = rb
  · exact .inr (.inl h1)
  by_cases h2 : b = cb
  · exact .inr (.inr h2)
  cases h3 : h0 b with
  | none => exact .inl rfl
  | some o => have := hf.x b o e h1 h2 h3; rw [hb] at this; cases this
theorem ones_of {cs : Array Value} (hv : ∀ i, i < n → cs[i]? = some (.int .i64 (i : Int))) : ∀ v ∈ (cs.extract 0 (0 + n * 1)).toList, isOne v = true := by
  intro v hm
  obtain ⟨j, hj⟩ := List.getElem?_of_mem hm
  rw [Array.getElem?_toList, Array.getElem?_extract] at hj
  split at hj
  · rename_i hlt
    rw [Nat.zero_add, hv j (by omega)] at hj
    cases hj; rfl
  · cases hj
theorem w_heap {P : Program} {w0 : World} {r : Option Nat} {ops : List Oper} {effs : List Nat} {Q : Env → Hp → Nat → Prop} {m : Nat} {t : Tr m} {E : Env} (F : Hp → Prop) (hF : F h) (k : ∀ h, F h → walk P w0 r ops effs Q m t E h N) : walk P w0 r ops effs Q m t E h N := k h hF
end
end Sx
end Go.Proofs.YbulkcsqkGreatDoor
