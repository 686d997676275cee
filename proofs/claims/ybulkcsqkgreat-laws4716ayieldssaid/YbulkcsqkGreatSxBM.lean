import Derived.Test.YbulkcsqkGreatSxIter
import Derived.Test.YbulkcsqkGreatSxEq
namespace Go.Proofs.YbulkcsqkGreat
namespace Sx
/-- A matrix of bools, its first q rows laid. -/
structure BM (X : Hp) (br n q : Nat) (V : Nat → Nat) (B : Nat → Nat → Bool) : Prop where
  top : ∃ vs, X br = some (.cells vs 41 (0, 0)) ∧ vs.size = n ∧ ∀ i, i < q → vs[i]? = some (.slice (some ⟨V i, 0, none⟩) n n)
  row : ∀ i, i < q → ∃ cs, X (V i) = some (.cells cs 4 (0, 0)) ∧ cs.size = n ∧ ∀ j, j < n → cs[j]? = some (.bool (B i j))
  inj : ∀ i j, i < q → j < q → V i = V j → i = j
section
variable {m X X' h : Hp} {br n q : Nat} {V : Nat → Nat} {B B' : Nat → Nat → Bool}
theorem BM.ext (hb : BM X br n q V B) (hx : Ext X X') : BM X' br n q V B := by
  obtain ⟨vs, h1, h2⟩ := hb.top
  refine ⟨⟨vs, hx _ _ h1, h2⟩, fun i hi => ?_, hb.inj⟩
  obtain ⟨cs, h3, h4⟩ := hb.row i hi
  exact ⟨cs, hx _ _ h3, h4⟩
theorem BM.congr (hb : BM X br n q V B) (he : ∀ i j, i < q → j < n → B i j = B' i j) : BM X br n q V B' := by
  refine ⟨hb.top, fun i hi => ?_, hb.inj⟩
  obtain ⟨cs, h3, h4, h5⟩ := hb.row i hi
  exact ⟨cs, h3, h4, fun j hj => by rw [h5 j hj, he i j hi hj]⟩
theorem BM.over {b : Nat} {z : Array Value} {t : TypeId} {fz : Nat × Nat} (hb : BM X br n q V B) (hz : X b = some (.cells z t fz)) (h1 : Nat.beq 41 t = false) (h2 : Nat.beq 4 t = false) (o : Obj) : BM (hset X b o) br n q V B := by
  obtain ⟨vs, g1, g2⟩ := hb.top
  refine ⟨⟨vs, (hset_ne _ _ (ne_of_ty g1 hz h1)).trans g1, g2⟩, fun i hi => ?_, hb.inj⟩
  obtain ⟨cs, h3, h4⟩ := hb.row i hi
  exact ⟨cs, (hset_ne _ _ (ne_of_ty h3 hz h2)).trans h3, h4⟩
/-- One cell becomes true. -/
theorem BM.put {i j : Nat} {cs : Array Value} (hb : BM X br n q V B) (hi : i < q) (hj : j < n) (hc : X (V i) = some (.cells cs 4 (0, 0))) : BM (hset X (V i) (.cells (setA cs j (.bool true)) 4 (0, 0))) br n q V (fun a b => if a = i ∧ b = j then true else B a b) := by
  obtain ⟨vs, g1, g2⟩ := hb.top
  refine ⟨⟨vs, (hset_ne _ _ (ne_of_ty g1 hc rfl)).trans g1, g2⟩, fun a ha => ?_, hb.inj⟩
  by_cases e : a = i
  · subst e
    obtain ⟨cs', h3, h4, h5⟩ := hb.row a ha
    rw [hc] at h3; cases h3
    refine ⟨_, hset_same _ _ _, by rw [setA_size]; exact h4, fun b hbn => ?_⟩
    by_cases e2 : b = j
    · subst e2; rw [setA_same _ _ (by omega)]; simp
    · rw [setA_ne _ _ (fun x => e2 x.symm), h5 b hbn]; simp [e2]
  · obtain ⟨cs', h3, h4, h5⟩ := hb.row a ha
    refine ⟨cs', (hset_ne _ _ (fun e2 => e (hb.inj a i ha hi e2))).trans h3, h4, fun b hbn => by rw [h5 b hbn]; simp [e]⟩
/-- The next row. -/
theorem BM.add {b : Nat} {vs : Array Value} (hb : BM X br n q V B) (hq : q < n) (hv : X br = some (.cells vs 41 (0, 0))) (hf : X b = none) :
    BM (hset (hset X b (.cells (madeCells #[.bool false] (n * 1)) 4 (0, 0))) br (.cells (setA vs q (.slice (some ⟨b, 0, none⟩) n n)) 41 (0, 0))) br n (q + 1) (fun i => if i = q then b else V i) (fun i j => if i = q then false else B i j) := by
  obtain ⟨vs', g1, g2, g3⟩ := hb.top
  rw [hv] at g1; cases g1
  have hbr : b ≠ br := (ne_of_none hv hf).symm
  have hVb : ∀ i, i < q → V i ≠ b := fun i hi e => by
    obtain ⟨cs, h3, _⟩ := hb.row i hi
    rw [e, hf] at h3; cases h3
  refine ⟨⟨_, hset_same _ _ _, by rw [setA_size]; exact g2, fun i hi => ?_⟩, fun i hi => ?_, fun i j hi hj e => ?_⟩
  · by_cases e : i = q
    · subst e; rw [setA_same _ _ (by omega)]; simp
    · rw [setA_ne _ _ (fun x => e x.symm), g3 i (by omega)]; simp [e]
  · by_cases e : i = q
    · subst e
      refine ⟨madeCells #[.bool false] (n * 1), ?_, made_size, fun j hj => ?_⟩
      · simp only [if_true]; rw [hset_ne _ _ hbr]; exact hset_same _ _ _
      · simp only [if_true]; exact made_get j hj
    · obtain ⟨cs, h3, h4, h5⟩ := hb.row i (by omega)
      refine ⟨cs, ?_, h4, fun j hj => by simp only [e, if_false]; exact h5 j hj⟩
      simp only [e, if_false]
      rw [hset_ne _ _ (ne_of_ty hv h3 rfl).symm, hset_ne _ _ (hVb i (by omega))]; exact h3
  · by_cases e1 : i = q
    · by_cases e2 : j = q
      · rw [e1, e2]
      · simp only [e1, e2, if_true, if_false] at e
        exact absurd e.symm (hVb j (by omega))
    · by_cases e2 : j = q
      · simp only [e1, e2, if_true, if_false] at e
        exact absurd e (hVb i (by omega))
      · simp only [e1, e2, if_false] at e
        exact hb.inj i j (by omega) (by omega) e
end
/-- A row of the others' grows. -/
theorem own_growX {m X h : Hp} {e : TypeId} {sz N b' N' n' c' : Nat} {v : Value} {xs ys : List Value} {cs' : Array Value} (hS : Sep m X h) (ho : Own X e sz v xs) (hG : Grown h N b' N' e v) (hs : cs'.size = c' * sz) (hn : n' ≤ c') (hl : ys.length = n' * sz) (ht : cs'.toList.take (n' * sz) = ys) :
    Sep m (hset X b' (.cells cs' e (0, 0))) (hset h b' (.cells cs' e (0, 0))) ∧ Own (hset X b' (.cells cs' e (0, 0))) e sz (.slice (some ⟨b', 0, none⟩) n' c') ys ∧ ∀ y o, X y = some o → blk v ≠ some y → hset X b' (.cells cs' e (0, 0)) y = some o := by
  refine ⟨?_, .inr ⟨b', n', c', cs', rfl, hset_same _ _ _, hs, hn, hl, ht⟩, fun y o hy hb => ?_⟩
  · rcases hG.or hS.oth with ⟨h1, _⟩ | h1
    · exact hS.newX h1 _
    · obtain ⟨cs, hc⟩ := ho.at h1
      exact hS.setX hc _
  · rw [hset_ne _ _ ?_]
    · exact hy
    · rcases hG.or hS.oth with ⟨_, h1⟩ | h1
      · exact ne_of_none hy h1
      · exact fun e => hb (by rw [e]; exact h1)
theorem sep_new {h h' : Hp} (hx : Ext h h') : Sep (sub h' h) h h' := by
  refine ⟨fun c o e => ?_, hx, fun c => ?_⟩
  · simp only [sub] at e
    split at e
    · exact e
    · cases e
  · cases e : h c with
    | none => exact .inr rfl
    | some o => exact .inl (by simp only [sub, e])
end Sx
end Go.Proofs.YbulkcsqkGreat
