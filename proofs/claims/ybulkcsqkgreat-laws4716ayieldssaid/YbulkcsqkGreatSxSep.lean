import Derived.Test.YbulkcsqkGreatSxMap
import Derived.Test.YbulkcsqkGreatSxRange
import Derived.Test.YbulkcsqkGreatSxTab
namespace Go.Proofs.YbulkcsqkGreat
namespace Sx

theorem Ext.back {h h' : Hp} (hx : Ext h h') {b : Nat} (hb : h' b = none) : h b = none := by
  cases e : h b with
  | none => rfl
  | some o => rw [hx _ _ e] at hb; cases hb
theorem hset_self {h : Hp} {b : Nat} {o : Obj} (hb : h b = some o) : hset h b o = h := by
  funext x; simp only [hset]; split
  · rename_i e; rw [e, hb]
  · rfl
theorem ne_of_ty {h : Hp} {a b : Nat} {x y : Array Value} {s t : TypeId} {f g : Nat × Nat} (ha : h a = some (.cells x s f)) (hb : h b = some (.cells y t g)) (hst : Nat.beq s t = false) : a ≠ b := by
  intro e
  rw [e, hb] at ha
  cases ha
  simp at hst
theorem ne_of_obj {h : Hp} {a b : Nat} {x y : Obj} (ha : h a = some x) (hb : h b = some y) (hxy : x ≠ y) : a ≠ b := by
  intro e; rw [e, hb] at ha; cases ha; exact hxy rfl
theorem ne_of_none {h : Hp} {a b : Nat} {x : Obj} (ha : h a = some x) (hb : h b = none) : a ≠ b := by
  intro e; rw [e, hb] at ha; cases ha

/-- m holds what is ours, X what is others'; both lie in h, apart. -/
structure Sep (m X h : Hp) : Prop where
  own : Ext m h
  oth : Ext X h
  dis : ∀ b, m b = none ∨ X b = none
section
variable {m m' X h h' : Hp} {N b : Nat} {o o' : Obj}
theorem Sep.start (h : Hp) : Sep (fun _ => none) h h := ⟨fun _ _ e => (by cases e), Ext.refl h, fun _ => .inl rfl⟩
theorem Sep.ext (hs : Sep m X h) (hx : Ext h h') : Sep m X h' := ⟨hs.own.trans hx, hs.oth.trans hx, hs.dis⟩
theorem Sep.fresh (hs : Sep m X h) (hb : h b = none) (o : Obj) : Sep m X (hset h b o) :=
  ⟨hs.own.fresh (hs.own.back hb) _, hs.oth.fresh (hs.oth.back hb) _, hs.dis⟩
theorem Ext.set {a c : Hp} (hx : Ext a c) (b : Nat) (o : Obj) : Ext (hset a b o) (hset c b o) := by
  intro d o' hd
  simp only [hset] at hd ⊢
  split at hd
  · rename_i e; rw [if_pos e]; exact hd
  · rename_i e; rw [if_neg e]; exact hx _ _ hd
theorem Sep.new (hs : Sep m X h) (hb : h b = none) (o : Obj) : Sep (hset m b o) X (hset h b o) := by
  refine ⟨hs.own.set b o, hs.oth.fresh (hs.oth.back hb) _, fun c => ?_⟩
  by_cases e : c = b
  · exact .inr (by rw [e]; exact hs.oth.back hb)
  · rw [hset_ne _ _ e]; exact hs.dis c
theorem Sep.push (hs : Sep m X h) (hN : ∀ b, N ≤ b → h b = none) (o : Obj) : Sep (hset m N o) X (hset h N o) := hs.new (hN _ (Nat.le_refl _)) o
theorem Sep.set (hs : Sep m X h) (hb : m b = some o') (o : Obj) : Sep (hset m b o) X (hset h b o) := by
  have hX : X b = none := (hs.dis b).resolve_left (by rw [hb]; exact fun e => by cases e)
  refine ⟨hs.own.set b o, hs.oth.fresh hX _, fun c => ?_⟩
  by_cases e : c = b
  · exact .inr (by rw [e]; exact hX)
  · rw [hset_ne _ _ e]; exact hs.dis c
theorem Sep.setX (hs : Sep m X h) (hb : X b = some o') (o : Obj) : Sep m (hset X b o) (hset h b o) := by
  have hm : m b = none := (hs.dis b).resolve_right (by rw [hb]; exact fun e => by cases e)
  refine ⟨hs.own.fresh hm _, hs.oth.set b o, fun c => ?_⟩
  by_cases e : c = b
  · exact .inl (by rw [e]; exact hm)
  · rw [hset_ne _ _ e]; exact hs.dis c
theorem Sep.newX (hs : Sep m X h) (hb : h b = none) (o : Obj) : Sep m (hset X b o) (hset h b o) := by
  refine ⟨hs.own.fresh (hs.own.back hb) _, hs.oth.set b o, fun c => ?_⟩
  by_cases e : c = b
  · exact .inl (by rw [e]; exact hs.own.back hb)
  · rw [hset_ne _ _ e]; exact hs.dis c
/-- A block of nobody's becomes others'. -/
theorem Sep.takeX (hs : Sep m X h) (hb : h b = some o) (hm : m b = none) : Sep m (hset X b o) h := by
  refine ⟨hs.own, fun c o' hc => ?_, fun c => ?_⟩
  · simp only [hset] at hc
    split at hc
    · rename_i e; rw [e, ← hc]; exact hb
    · exact hs.oth _ _ hc
  · by_cases e : c = b
    · exact .inl (by rw [e]; exact hm)
    · rw [hset_ne _ _ e]; exact hs.dis c
theorem Sep.dropm (hs : Sep m X h) (hx : Ext m' m) : Sep m' X h :=
  ⟨hx.trans hs.own, hs.oth, fun b => by
    rcases hs.dis b with e | e
    · exact .inl (hx.back e)
    · exact .inr e⟩
theorem Sep.dropX {X' : Hp} (hs : Sep m X h) (hx : Ext X' X) : Sep m X' h :=
  ⟨hs.own, hx.trans hs.oth, fun b => by
    rcases hs.dis b with e | e
    · exact .inl e
    · exact .inr (hx.back e)⟩
theorem Sep.setO (hs : Sep m X h) (hm : m b = none) (hX : X b = none) (o : Obj) : Sep m X (hset h b o) :=
  ⟨hs.own.fresh hm _, hs.oth.fresh hX _, hs.dis⟩

def uni (a b : Hp) : Hp := fun c => match a c with
  | some o => some o
  | none => b c
theorem uni_l (a b : Hp) : Ext a (uni a b) := fun c o e => by simp only [uni, e]
theorem uni_r {a b : Hp} (hd : ∀ c, a c = none ∨ b c = none) : Ext b (uni a b) := fun c o e => by
  rcases hd c with h | h
  · simp only [uni, h]; exact e
  · rw [h] at e; cases e
theorem uni_none {a b : Hp} {c : Nat} (h1 : a c = none) (h2 : b c = none) : uni a b c = none := by simp only [uni, h1]; exact h2
/-- What is ours is handed to the others for a while. -/
theorem Sep.lend (hs : Sep m X h) : Sep (fun _ => none) (uni m X) h := by
  refine ⟨fun _ _ e => (by cases e), fun c o e => ?_, fun _ => .inl rfl⟩
  simp only [uni] at e
  split at e
  · rename_i o' h1; cases e; exact hs.own _ _ h1
  · exact hs.oth _ _ e
end

/-! ### Rows of numbers, each alone in its block -/
def blk : Value → Option Nat
  | .slice (some a) _ _ => some a.block
  | _ => none
theorem Own.ext {h h' : Hp} {e : TypeId} {sz : Nat} {v : Value} {xs : List Value} (hx : Ext h h') (ho : Own h e sz v xs) : Own h' e sz v xs := by
  rcases ho with h1 | ⟨b, n, c, cs, h1, h2, h3⟩
  · exact .inl h1
  · exact .inr ⟨b, n, c, cs, h1, hx _ _ h2, h3⟩
theorem Own.at {h : Hp} {e : TypeId} {sz b : Nat} {v : Value} {xs : List Value} (ho : Own h e sz v xs) (hb : blk v = some b) : ∃ cs, h b = some (.cells cs e (0, 0)) := by
  rcases ho with ⟨rfl, _⟩ | ⟨b', n, c, cs, rfl, h2, _⟩
  · cases hb
  · cases hb; exact ⟨_, h2⟩
theorem Own.off {h : Hp} {e : TypeId} {sz b : Nat} {v : Value} {xs : List Value} (ho : Own h e sz v xs) (hb : blk v ≠ some b) (o : Obj) : Own (hset h b o) e sz v xs := by
  rcases ho with h1 | ⟨b', n, c, cs, rfl, h2, h3⟩
  · exact .inl h1
  · refine .inr ⟨b', n, c, cs, rfl, ?_, h3⟩
    rw [hset_ne _ _ (fun e => hb (by rw [← e]; rfl))]; exact h2
def ap (S : Nat → List Nat) (k x : Nat) : Nat → List Nat := fun l => if l = k then S k ++ [x] else S l
def vp (V : Nat → Value) (k : Nat) (v : Value) : Nat → Value := fun l => if l = k then v else V l

/-- n rows, their slices in block bs. -/
structure Rows (m : Hp) (bs n : Nat) (V : Nat → Value) (S : Nat → List Nat) : Prop where
  top : ∃ vs, m bs = some (.cells vs 34 (0, 0)) ∧ vs.size = n ∧ ∀ i, i < n → vs[i]? = some (V i)
  own : ∀ i, i < n → Own m 3 1 (V i) (ints (S i))
  inj : ∀ i j b, i < n → j < n → blk (V i) = some b → blk (V j) = some b → i = j
section
variable {m m' : Hp} {bs n k b b' n' c' x : Nat} {V : Nat → Value} {S : Nat → List Nat} {cs' vs : Array Value} {o : Obj}
theorem Rows.ext (hr : Rows m bs n V S) (hx : Ext m m') : Rows m' bs n V S := by
  obtain ⟨vs, h1, h2⟩ := hr.top
  exact ⟨⟨vs, hx _ _ h1, h2⟩, fun i hi => (hr.own i hi).ext hx, hr.inj⟩
theorem Rows.off (hr : Rows m bs n V S) (h1 : bs ≠ b) (h2 : ∀ i, i < n → blk (V i) ≠ some b) : Rows (hset m b o) bs n V S := by
  obtain ⟨vs, h3, h4⟩ := hr.top
  exact ⟨⟨vs, (hset_ne _ _ h1).trans h3, h4⟩, fun i hi => (hr.own i hi).off (h2 i hi) _, hr.inj⟩
theorem Rows.fresh (hr : Rows m bs n V S) (hb : m b = none) : Rows (hset m b o) bs n V S := hr.ext ((Ext.refl m).fresh hb _)
theorem Rows.nbs (hr : Rows m bs n V S) (hk : k < n) : blk (V k) ≠ some bs := by
  intro e
  obtain ⟨cs, hc⟩ := (hr.own k hk).at e
  obtain ⟨vs, h1, _⟩ := hr.top
  rw [h1] at hc; cases hc
/-- Row k gets another block or its own anew. -/
theorem Rows.put (hr : Rows m bs n V S) (hk : k < n) (hb : m b' = none ∨ blk (V k) = some b') (hv : m bs = some (.cells vs 34 (0, 0))) {ys : List Nat} (hs : cs'.size = c' * 1) (hn : n' ≤ c') (hl : (ints ys).length = n' * 1) (ht : cs'.toList.take (n' * 1) = ints ys) :
    Rows (hset (hset m b' (.cells cs' 3 (0, 0))) bs (.cells (setA vs k (.slice (some ⟨b', 0, none⟩) n' c')) 34 (0, 0))) bs n (vp V k (.slice (some ⟨b', 0, none⟩) n' c')) (fun l => if l = k then ys else S l) := by
  obtain ⟨vs', h3, h4, h5⟩ := hr.top
  rw [hv] at h3; cases h3
  have hne : ∀ l, l < n → l ≠ k → blk (V l) ≠ some b' := by
    intro l hl' hlk e
    rcases hb with hb | hb
    · obtain ⟨o, ho⟩ := (hr.own l hl').at e
      rw [hb] at ho; cases ho
    · exact hlk (hr.inj _ _ _ hl' hk e hb)
  have hbb : b' ≠ bs := by
    rcases hb with hb | hb
    · exact (ne_of_none hv hb).symm
    · intro e; rw [e] at hb; exact hr.nbs hk hb
  refine ⟨⟨_, hset_same _ _ _, by rw [setA_size]; exact h4, fun i hi => ?_⟩, fun l hl' => ?_, fun l l2 b h1 h2 e1 e2 => ?_⟩
  · by_cases e : i = k
    · subst e; rw [setA_same _ _ (by omega)]; simp [vp]
    · rw [setA_ne _ _ (fun x => e x.symm), h5 i hi]; simp [vp, e]
  · by_cases e : l = k
    · subst e
      simp only [vp, if_true]
      refine .inr ⟨b', n', c', cs', rfl, (hset_ne _ _ hbb).trans (hset_same _ _ _), hs, hn, hl, ht⟩
    · simp only [vp, e, if_false]
      exact ((hr.own l hl').off (hne l hl' e) _).off (hr.nbs hl') _
  · by_cases e3 : l = k
    · by_cases e4 : l2 = k
      · rw [e3, e4]
      · subst e3
        simp only [vp, if_true, blk, e4, if_false] at e1 e2
        cases e1; exact absurd e2 (hne _ h2 e4)
    · by_cases e4 : l2 = k
      · subst e4
        simp only [vp, if_true, blk, e3, if_false] at e1 e2
        cases e2; exact absurd e1 (hne _ h1 e3)
      · simp only [vp, e3, e4, if_false] at e1 e2; exact hr.inj _ _ _ h1 h2 e1 e2
/-- What a row's slice shows. -/
theorem Own.row {xs : List Nat} {v : Value} (ho : Own m 3 1 v (ints xs)) :
    ∃ ao cap, v = .slice ao xs.length cap ∧ xs.length ≤ cap ∧ ∀ (i x : Nat), xs[i]? = some x → ∃ b cs, ao = some ⟨b, 0, none⟩ ∧ m b = some (.cells cs 3 (0, 0)) ∧ cs[i]? = some (.int .i64 (x : Int)) := by
  rcases ho with ⟨h1, h2⟩ | ⟨b, n, c, cs, h1, h2, h3, h4, h5, h6⟩
  · have : xs = [] := by simpa [ints] using h2
    subst this
    exact ⟨none, 0, h1, Nat.le_refl _, fun i x hx => by simp at hx⟩
  · have hn : n = xs.length := by simpa [ints] using h5.symm
    subst hn
    refine ⟨_, c, h1, h4, fun i x hx => ⟨b, cs, rfl, h2, ?_⟩⟩
    have hlt : i < xs.length := (List.getElem?_eq_some_iff.1 hx).1
    have e : (cs.toList.take (xs.length * 1))[i]? = (ints xs)[i]? := by rw [h6]
    rw [List.getElem?_take, if_pos (by omega)] at e
    rw [← Array.getElem?_toList, e]
    simp [ints, hx]
end
/-- What append did: a new block, or the old one. -/
def Grown (h : Hp) (N b' N' : Nat) (e : TypeId) (v : Value) : Prop := (b' = N ∧ N' = N + 1 ∧ (∀ b, N ≤ b → h b = none)) ∨ (N' = N ∧ ∃ n c cs, v = .slice (some ⟨b', 0, none⟩) n c ∧ h b' = some (.cells cs e (0, 0)))
theorem Grown.or {h m : Hp} {N b' N' : Nat} {e : TypeId} {v : Value} (hc : Grown h N b' N' e v) (hm : Ext m h) : (h b' = none ∧ m b' = none) ∨ blk v = some b' := by
  rcases hc with ⟨rfl, _, hf⟩ | ⟨_, n, c, cs, rfl, _⟩
  · exact .inl ⟨hf _ (Nat.le_refl _), hm.back (hf _ (Nat.le_refl _))⟩
  · exact .inr rfl
end Sx
end Go.Proofs.YbulkcsqkGreat
