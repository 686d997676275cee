import Derived.Test.YbulkcsqkGreatSxRaw
namespace Go.Proofs.YbulkcsqkGreat
namespace Sx
set_option maxRecDepth 10000
set_option maxHeartbeats 4000000
variable {w0 : World}
section
variable {h : Hp} {N : Nat}
/-- The polygraph's cells. -/
def pcells (bn be n : Nat) (vg : Value) : Array Value := #[.slice (some ⟨bn, 0, none⟩) n n, .slice (some ⟨be, 0, none⟩) n n, vg, .slice none 0 0, .slice none 0 0, .slice none 0 0, .nilFunc, .nilFunc, .nilFunc]
theorem sepC {X h h' : Hp} {a b c : Nat} {oa ob oc : Obj} (hS : Sep (fun _ => none) X h) (ab : a ≠ b) (ac : a ≠ c) (ha : h a = none) (hx : Ext h h') (ga : h' a = some oa) (gb : h' b = some ob) (gc : h' c = some oc) : Sep (hset (fun _ => none) a oa) (hset (hset X b ob) c oc) h' := by
  refine ⟨fun x o e => ?_, fun x o e => ?_, fun x => ?_⟩
  · by_cases e2 : x = a
    · subst e2; rw [hset_same] at e; rw [ga]; exact e
    · rw [hset_ne _ _ e2] at e; cases e
  · by_cases e1 : x = c
    · subst e1; rw [hset_same] at e; rw [gc]; exact e
    · rw [hset_ne _ _ e1] at e
      by_cases e2 : x = b
      · subst e2; rw [hset_same] at e; rw [gb]; exact e
      · rw [hset_ne _ _ e2] at e; exact hx _ _ (hS.oth _ _ e)
  · by_cases e2 : x = a
    · subst e2; exact .inr ((hset_ne _ _ ac).trans ((hset_ne _ _ ab).trans (hS.oth.back ha)))
    · exact .inl (hset_ne _ _ e2)

/-- While the edges come. -/
structure LE (h m X : Hp) (b9 sp bp bn be br n : Nat) (V : Nat → Nat) (M : Nat → Option Nat) (R : Nat → List Nat) (B : Nat → Nat → Bool) (c1 : Bool) : Prop where
  ext : Ext h X
  x9 : X b9 = some (.cells #[.int .u8 (sp : Int)] 5 (0, 0))
  x13 : X bp = some (.cells (pcells bn be n (.slice none 0 0)) 39 (0, 0))
  es : ES m be n M R
  bm : BM X br n n V B
  hB : ∀ i j, i < n → j < n → (B i j = true ↔ i = j ∨ j ∈ R i)
  lt : ∀ i, i < n → ∀ x, x ∈ R i → x < n
  cy : c1 = true ↔ ∃ i, i < n ∧ i ∈ R i
  nV : ∀ i, i < n → h (V i) = none

/-- While the matrix is closed. -/
structure LF (h X : Hp) (b9 sp bp bn be br n : Nat) (V : Nat → Nat) (B : Nat → Nat → Bool) : Prop where
  ext : Ext h X
  x9 : X b9 = some (.cells #[.int .u8 (sp : Int)] 5 (0, 0))
  x13 : X bp = some (.cells (pcells bn be n (.slice none 0 0)) 39 (0, 0))
  bm : BM X br n n V B
  nV : ∀ i, i < n → h (V i) = none
theorem LF.put {h X : Hp} {b9 sp bp bn be br n i j : Nat} {V : Nat → Nat} {B : Nat → Nat → Bool} {cr : Array Value} (hL : LF h X b9 sp bp bn be br n V B) (hi : i < n) (hj : j < n) (r1 : X (V i) = some (.cells cr 4 (0, 0))) : LF h (hset X (V i) (.cells (setA cr j (.bool true)) 4 (0, 0))) b9 sp bp bn be br n V (fun a b => if a = i ∧ b = j then true else B a b) :=
  ⟨hL.ext.fresh (hL.nV i hi) _, (hset_ne _ _ (ne_of_ty hL.x9 r1 rfl)).trans hL.x9, (hset_ne _ _ (ne_of_ty hL.x13 r1 rfl)).trans hL.x13, hL.bm.put hi hj r1, hL.nV⟩
theorem LF.congr {h X : Hp} {b9 sp bp bn be br n : Nat} {V : Nat → Nat} {B B' : Nat → Nat → Bool} (hL : LF h X b9 sp bp bn be br n V B) (he : ∀ i j, i < n → j < n → B i j = B' i j) : LF h X b9 sp bp bn be br n V B' := ⟨hL.ext, hL.x9, hL.x13, hL.bm.congr he, hL.nV⟩

abbrev gz (a b c d e f g k mv k0 k1 kp ab : Value) : Array Value := #[a, b, c, d, e, f, g, k, mv, .pointer none, k0, k1, kp, ab]
/-- While the groups come. -/
structure LG (h X : Hp) (b9 sp bp bn be br n : Nat) (V : Nat → Nat) (G : Nat → Nat → Bool) (vg : Value) (gl : List (Grp × Nat)) (vw : Value) (wl : List Rc) : Prop where
  ext : Ext h X
  x9 : X b9 = some (.cells #[.int .u8 (sp : Int)] 5 (0, 0))
  x13 : X bp = some (.cells (pcells bn be n vg) 39 (0, 0))
  bm : BM X br n n V G
  og : Own X 51 14 vg (gl.flatMap gcell)
  ow : Own X 60 5 vw (rcells wl)
  mem : ∀ p, p ∈ gl → MemAt X p
  ng : ∀ b, blk vg = some b → h b = none
  nw : ∀ b, blk vw = some b → h b = none
theorem MemAt.ext {X X' : Hp} {p : Grp × Nat} (hm : MemAt X p) (hx : Ext X X') : MemAt X' p := by
  obtain ⟨ms, h1, h2⟩ := hm
  exact ⟨ms, hx _ _ h1, h2⟩
theorem LG.mono {h X X' : Hp} {b9 sp bp bn be br n : Nat} {V : Nat → Nat} {G : Nat → Nat → Bool} {vg : Value} {gl : List (Grp × Nat)} {vw : Value} {wl : List Rc} (hL : LG h X b9 sp bp bn be br n V G vg gl vw wl) (hx : Ext X X') : LG h X' b9 sp bp bn be br n V G vg gl vw wl :=
  ⟨hL.ext.trans hx, hx _ _ hL.x9, hx _ _ hL.x13, hL.bm.ext hx, hL.og.ext hx, hL.ow.ext hx, fun p hp => (hL.mem p hp).ext hx, hL.ng, hL.nw⟩
theorem hset_comm (X : Hp) {a b : Nat} (o o' : Obj) (hab : a ≠ b) : hset (hset X a o) b o' = hset (hset X b o') a o := by
  funext c
  simp only [hset]
  by_cases e1 : c = a
  · subst e1; simp [hab]
  · by_cases e2 : c = b
    · subst e2; simp [e1]
    · simp [e1, e2]
theorem rcells_len (l : List Rc) : (rcells l).length = l.length * 5 := flat_len rcell 5 (fun _ => rfl) l
theorem gcells_len (l : List (Grp × Nat)) : (l.flatMap gcell).length = l.length * 14 := flat_len gcell 14 (fun _ => rfl) l

theorem Own.move {X X' : Hp} {e : TypeId} {sz : Nat} {v : Value} {xs : List Value} (ho : Own X e sz v xs) (hk : ∀ x cs, X x = some (.cells cs e (0, 0)) → X' x = some (.cells cs e (0, 0))) : Own X' e sz v xs := by
  rcases ho with h1 | ⟨b, n, c, cs, h1, h2, h3⟩
  · exact .inl h1
  · exact .inr ⟨b, n, c, cs, h1, hk _ _ h2, h3⟩
section
variable {h h1 m X : Hp} {b9 sp bp bn be br n N1 N2 b' n' c' : Nat} {V : Nat → Nat} {G : Nat → Nat → Bool} {vg vw : Value} {gl : List (Grp × Nat)} {wl : List Rc} {cs' : Array Value}
/-- A group more. -/
theorem LG.growG {p : Grp × Nat} (hS : Sep m X h1) (hL : LG h X b9 sp bp bn be br n V G vg gl vw wl) (hbp : h bp = none) (hG : Grown h1 N1 b' N2 51 vg) (hs : cs'.size = c' * 14) (hn : n' ≤ c') (hl : (gl.flatMap gcell ++ gcell p).length = n' * 14) (ht : cs'.toList.take (n' * 14) = gl.flatMap gcell ++ gcell p) (hm : MemAt X p) :
    ∃ X2, Sep m X2 (hset (hset h1 b' (.cells cs' 51 (0, 0))) bp (.cells (pcells bn be n (.slice (some ⟨b', 0, none⟩) n' c')) 39 (0, 0))) ∧ LG h X2 b9 sp bp bn be br n V G (.slice (some ⟨b', 0, none⟩) n' c') (gl ++ [p]) vw wl ∧ (hset h1 b' (.cells cs' 51 (0, 0))) bp = some (.cells (pcells bn be n vg) 39 (0, 0)) ∧ ∀ y o, X y = some o → blk vg ≠ some y → y ≠ bp → X2 y = some o := by
  obtain ⟨hS2, hO2, hk2⟩ := own_growX hS hL.og hG hs hn hl ht
  have hnb : h b' = none := by
    rcases hG.or hS.oth with ⟨_, h2⟩ | h2
    · exact hL.ext.back h2
    · exact hL.ng b' h2
  have g13 := hk2 _ _ hL.x13 (hL.og.noty hL.x13 rfl)
  have hkk : ∀ y o, X y = some o → blk vg ≠ some y → y ≠ bp → (hset (hset X b' (.cells cs' 51 (0, 0))) bp (.cells (pcells bn be n (.slice (some ⟨b', 0, none⟩) n' c')) 39 (0, 0))) y = some o := fun y o hy h2 h3 => (hset_ne _ _ h3).trans (hk2 y o hy h2)
  have hkt : ∀ x cs t fz, X x = some (.cells cs t fz) → Nat.beq 51 t = false → Nat.beq 39 t = false → (hset (hset X b' (.cells cs' 51 (0, 0))) bp (.cells (pcells bn be n (.slice (some ⟨b', 0, none⟩) n' c')) 39 (0, 0))) x = some (.cells cs t fz) := fun x cs t fz hx h2 h3 => hkk x _ hx (hL.og.noty hx h2) (ne_of_ty hL.x13 hx h3).symm
  refine ⟨_, hS2.setX g13 _, ⟨(hL.ext.fresh hnb _).fresh hbp _, hkt _ _ _ _ hL.x9 rfl rfl, hset_same _ _ _, ?_, ?_, hL.ow.move (fun x cs hx => hkt x cs _ _ hx rfl rfl), fun r hr => ?_, fun b hb => ?_, hL.nw⟩, hS2.oth _ _ g13, hkk⟩
  · obtain ⟨vs, t1, t2⟩ := hL.bm.top
    refine ⟨⟨vs, hkt _ _ _ _ t1 rfl rfl, t2⟩, fun i hi => ?_, hL.bm.inj⟩
    obtain ⟨cs, r1, r2⟩ := hL.bm.row i hi
    exact ⟨cs, hkt _ _ _ _ r1 rfl rfl, r2⟩
  · rw [List.flatMap_append, show [p].flatMap gcell = gcell p from by simp]
    exact hO2.off (hO2.noty g13 rfl) _
  · rcases List.mem_append.1 hr with h2 | h2
    · obtain ⟨ms, h3, h4⟩ := hL.mem r h2
      exact ⟨ms, hkt _ _ _ _ h3 rfl rfl, h4⟩
    · simp at h2; subst h2
      obtain ⟨ms, h3, h4⟩ := hm
      exact ⟨ms, hkt _ _ _ _ h3 rfl rfl, h4⟩
  · cases hb; exact hnb
/-- A record more. -/
theorem LG.growW {r : Rc} (hS : Sep m X h1) (hL : LG h X b9 sp bp bn be br n V G vg gl vw wl) (hG : Grown h1 N1 b' N2 60 vw) (hs : cs'.size = c' * 5) (hn : n' ≤ c') (hl : (rcells wl ++ rcell r).length = n' * 5) (ht : cs'.toList.take (n' * 5) = rcells wl ++ rcell r) :
    ∃ X2, Sep m X2 (hset h1 b' (.cells cs' 60 (0, 0))) ∧ LG h X2 b9 sp bp bn be br n V G vg gl (.slice (some ⟨b', 0, none⟩) n' c') (wl ++ [r]) ∧ ∀ x cs t fz, X x = some (.cells cs t fz) → Nat.beq 60 t = false → X2 x = some (.cells cs t fz) := by
  obtain ⟨hS2, hO2, hk2⟩ := own_growX hS hL.ow hG hs hn hl ht
  have hnb : h b' = none := by
    rcases hG.or hS.oth with ⟨_, h2⟩ | h2
    · exact hL.ext.back h2
    · exact hL.nw b' h2
  have hkt : ∀ x cs t fz, X x = some (.cells cs t fz) → Nat.beq 60 t = false → (hset X b' (.cells cs' 60 (0, 0))) x = some (.cells cs t fz) := fun x cs t fz hx h2 => hk2 x _ hx (hL.ow.noty hx h2)
  refine ⟨_, hS2, ⟨hL.ext.fresh hnb _, hkt _ _ _ _ hL.x9 rfl, hkt _ _ _ _ hL.x13 rfl, ?_, hL.og.move (fun x cs hx => hkt x cs _ _ hx rfl), ?_, fun q hq => ?_, hL.ng, fun b hb => ?_⟩, hkt⟩
  · obtain ⟨vs, t1, t2⟩ := hL.bm.top
    refine ⟨⟨vs, hkt _ _ _ _ t1 rfl, t2⟩, fun i hi => ?_, hL.bm.inj⟩
    obtain ⟨cs, r1, r2⟩ := hL.bm.row i hi
    exact ⟨cs, hkt _ _ _ _ r1 rfl, r2⟩
  · rw [show rcells (wl ++ [r]) = rcells wl ++ rcell r from by simp [rcells]]
    exact hO2
  · obtain ⟨ms, h3, h4⟩ := hL.mem q hq
    exact ⟨ms, hkt _ _ _ _ h3 rfl, h4⟩
  · cases hb; exact hnb
end

end
end Sx
end Go.Proofs.YbulkcsqkGreat
