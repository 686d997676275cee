import Derived.Test.YbulkcsqkGreatDoorSxFit
namespace Go.Proofs.YbulkcsqkGreatDoor
namespace Sx

/-! ### Rows of numbers, each alone in its block -/
def blk : Value → Option Nat
  | .slice (some a) _ _ => some a.block
  | _ => none
def ints (l : List Nat) : List Value := l.map fun (x : Nat) => Value.int .i64 (x : Int)
def ap (S : Nat → List Nat) (k x : Nat) : Nat → List Nat := fun l => if l = k then S k ++ [x] else S l
def vp (V : Nat → Value) (k : Nat) (v : Value) : Nat → Value := fun l => if l = k then v else V l

theorem Own.ext {h h' : Hp} {e : TypeId} {sz : Nat} {v : Value} {xs : List Value} (hx : Ext h h') (ho : Own h e sz v xs) : Own h' e sz v xs := by
  rcases ho with h1 | ⟨b, n, c, cs, h1, h2, h3⟩
  · exact .inl h1
  · exact .inr ⟨b, n, c, cs, h1, hx _ _ h2, h3⟩
theorem Own.at {h : Hp} {e : TypeId} {sz b : Nat} {v : Value} {xs : List Value} (ho : Own h e sz v xs) (hb : blk v = some b) : ∃ o, h b = some o := by
  rcases ho with ⟨rfl, _⟩ | ⟨b', n, c, cs, rfl, h2, _⟩
  · cases hb
  · cases hb; exact ⟨_, h2⟩
theorem Own.off {h : Hp} {e : TypeId} {sz b : Nat} {v : Value} {xs : List Value} (ho : Own h e sz v xs) (hb : blk v ≠ some b) (o : Obj) : Own (hset h b o) e sz v xs := by
  rcases ho with h1 | ⟨b', n, c, cs, rfl, h2, h3⟩
  · exact .inl h1
  · refine .inr ⟨b', n, c, cs, rfl, ?_, h3⟩
    rw [hset_ne _ _ (fun e => hb (by rw [← e]; rfl))]; exact h2

structure Grid (h : Hp) (N0 m : Nat) (V : Nat → Value) (S : Nat → List Nat) : Prop where
  own : ∀ k, k < m → Own h 3 1 (V k) (ints (S k))
  old : ∀ k b, k < m → blk (V k) = some b → N0 ≤ b
  inj : ∀ k l b, k < m → l < m → blk (V k) = some b → blk (V l) = some b → k = l

section
variable {h h' : Hp} {N N0 m k b' n' c' x : Nat} {V : Nat → Value} {S : Nat → List Nat} {cs' : Array Value} {o : Obj}
theorem Grid.ext (hg : Grid h N0 m V S) (hx : Ext h h') : Grid h' N0 m V S :=
  ⟨fun k hk => (hg.own k hk).ext hx, hg.old, hg.inj⟩
theorem Grid.low (hg : Grid h N0 m V S) {b : Nat} (hb : b < N0) : Grid (hset h b o) N0 m V S :=
  ⟨fun k hk => (hg.own k hk).off (fun e => by have := hg.old k b hk e; omega) _, hg.old, hg.inj⟩
theorem Grid.app (hg : Grid h N0 m V S) (hk : k < m) (hN : N0 ≤ b') (hb : h b' = none ∨ blk (V k) = some b') (hs : cs'.size = c' * 1) (hn : n' ≤ c') (hl : (ints (S k) ++ [Value.int .i64 (x : Int)]).length = n' * 1) (ht : cs'.toList.take (n' * 1) = ints (S k) ++ [Value.int .i64 (x : Int)]) :
    Grid (hset h b' (.cells cs' 3 (0, 0))) N0 m (vp V k (.slice (some ⟨b', 0, none⟩) n' c')) (ap S k x) := by
  have hne : ∀ l, l < m → l ≠ k → blk (V l) ≠ some b' := by
    intro l hl' hlk e
    rcases hb with hb | hb
    · obtain ⟨o, ho⟩ := (hg.own l hl').at e
      rw [hb] at ho; cases ho
    · exact hlk (hg.inj _ _ _ hl' hk e hb)
  refine ⟨fun l hl' => ?_, fun l b hl' e => ?_, fun l l2 b h1 h2 e1 e2 => ?_⟩
  · by_cases e : l = k
    · subst e
      simp only [vp, ap, if_true]
      refine .inr ⟨b', n', c', cs', rfl, hset_same _ _ _, hs, hn, ?_, ?_⟩
      · rw [← hl]; simp [ints]
      · rw [ht]; simp [ints]
    · simp only [vp, ap, e, if_false]
      exact (hg.own l hl').off (hne l hl' e) _
  · by_cases e' : l = k
    · subst e'; simp only [vp, if_true, blk] at e; cases e; exact hN
    · simp only [vp, e', if_false] at e; exact hg.old l b hl' e
  · by_cases e3 : l = k
    · by_cases e4 : l2 = k
      · rw [e3, e4]
      · subst e3
        simp only [vp, if_true, blk, e4, if_false] at e1 e2
        cases e1; exact absurd e2 (hne _ h2 e4)
    · by_cases e4 : l2 = k
      · subst e4
        simp only [vp, if_true, blk, e3, if_false] at e1 e2
        cases e2; exact absurd e1 (hne _ h1 e3)
      · simp only [vp, e3, e4, if_false] at e1 e2; exact hg.inj _ _ _ h1 h2 e1 e2
end

def Grown (h : Hp) (N b' N' : Nat) (v : Value) : Prop := (b' = N ∧ N' = N + 1 ∧ (∀ b, N ≤ b → h b = none)) ∨ (N' = N ∧ ∃ n c cs, v = .slice (some ⟨b', 0, none⟩) n c ∧ h b' = some (.cells cs 3 (0, 0)))
theorem Grown.ne {h : Hp} {N b' N' x : Nat} {v : Value} {o : Obj} (hc : Grown h N b' N' v) (hx : h x = some o) (hv : blk v ≠ some x) : x ≠ b' := by
  intro e
  subst e
  rcases hc with ⟨rfl, _, hf⟩ | ⟨_, n, c, cs, rfl, _⟩
  · rw [hf _ (Nat.le_refl _)] at hx; cases hx
  · exact hv rfl

/-- What lies below N0 lies as it lay, but for three blocks. -/
def Keep (N0 br bs bp : Nat) (h h' : Hp) : Prop := ∀ c o, c < N0 → c ≠ br → c ≠ bs → c ≠ bp → h c = some o → h' c = some o
theorem Keep.trans {N0 br bs bp : Nat} {h h1 h2 : Hp} (x : Keep N0 br bs bp h h1) (y : Keep N0 br bs bp h1 h2) : Keep N0 br bs bp h h2 := fun c o a b d e f => y c o a b d e (x c o a b d e f)
theorem Keep.set {N0 br bs bp b : Nat} {h h1 : Hp} (x : Keep N0 br bs bp h h1) (hb : N0 ≤ b ∨ b = br ∨ b = bs ∨ b = bp) (o : Obj) : Keep N0 br bs bp h (hset h1 b o) := fun c o a b' d e f => by
  rw [hset_ne _ _ (by omega)]; exact x c _ a b' d e f
theorem Keep.ext {N0 br bs bp : Nat} {h h1 h2 : Hp} (x : Keep N0 br bs bp h h1) (y : Ext h1 h2) : Keep N0 br bs bp h h2 := fun c o a b d e f => y c o (x c o a b d e f)

/-- The resolver and its rows. -/
structure Blk (h : Hp) (N0 br bs bp n : Nat) (rc : Array Value) (p : Nat) (V : Nat → Value) (S : Nat → List Nat) : Prop where
  r : h br = some (.cells (setA rc 56 (.int .i64 p)) 70 (0, 0))
  s : ∃ vs, h bs = some (.cells vs 25 (0, 0)) ∧ vs.size = n ∧ ∀ i, i < n → vs[i]? = some (V i)
  q : ∃ us, h bp = some (.cells us 25 (0, 0)) ∧ us.size = n ∧ ∀ i, i < n → us[i]? = some (V (n + i))
  g : Grid h N0 (n + n) V S
  lr : br < N0
  ls : bs < N0
  lp : bp < N0
  rs : br ≠ bs
  rp : br ≠ bp
  sp : bs ≠ bp
  z : ∃ bz, N0 = bz + 1 ∧ ∃ o, h bz = some o

section
variable {h h' h0 : Hp} {N N' N0 br bs bp n p k b' n' c' x eb cb a b : Nat} {V : Nat → Value} {S : Nat → List Nat} {rc cs' : Array Value} {o : Obj}
theorem Blk.ext (hb : Blk h N0 br bs bp n rc p V S) (hx : Ext h h') : Blk h' N0 br bs bp n rc p V S := by
  obtain ⟨vs, h1, h2⟩ := hb.s
  obtain ⟨us, h3, h4⟩ := hb.q
  obtain ⟨bz, h5, o, h6⟩ := hb.z
  exact ⟨hx _ _ hb.r, ⟨vs, hx _ _ h1, h2⟩, ⟨us, hx _ _ h3, h4⟩, hb.g.ext hx, hb.lr, hb.ls, hb.lp, hb.rs, hb.rp, hb.sp, bz, h5, o, hx _ _ h6⟩
theorem Blk.low (hb : Blk h N0 br bs bp n rc p V S) (hf : ∀ b, N ≤ b → h b = none) : N0 ≤ N := by
  obtain ⟨bz, h5, o, h6⟩ := hb.z
  have := lt_of_free hf h6
  omega
theorem z_set {b : Nat} {o' : Obj} (hz : ∃ bz, N0 = bz + 1 ∧ ∃ o, h bz = some o) : ∃ bz, N0 = bz + 1 ∧ ∃ o, (hset h b o') bz = some o := by
  obtain ⟨bz, h5, o, h6⟩ := hz
  refine ⟨bz, h5, ?_⟩
  by_cases e : bz = b
  · subst e; exact ⟨_, hset_same _ _ _⟩
  · exact ⟨o, by rw [hset_ne _ _ e]; exact h6⟩
theorem Blk.place (hb : Blk h N0 br bs bp n rc p V S) (q : Nat) : Blk (hset h br (.cells (setA rc 56 (.int .i64 q)) 70 (0, 0))) N0 br bs bp n rc q V S := by
  obtain ⟨vs, h1, h2⟩ := hb.s
  obtain ⟨us, h3, h4⟩ := hb.q
  exact ⟨hset_same _ _ _, ⟨vs, by rw [hset_ne _ _ hb.rs.symm]; exact h1, h2⟩, ⟨us, by rw [hset_ne _ _ hb.rp.symm]; exact h3, h4⟩, hb.g.low hb.lr, hb.lr, hb.ls, hb.lp, hb.rs, hb.rp, hb.sp, z_set hb.z⟩
theorem Grown.old (hc : Grown h N b' N' (V k)) (hb : Blk h N0 br bs bp n rc p V S) (hk : k < n + n) : N0 ≤ b' := by
  rcases hc with ⟨rfl, _, hf⟩ | ⟨_, n, c, cs, e, _⟩
  · exact hb.low hf
  · exact hb.g.old k b' hk (by rw [e]; rfl)
theorem Grown.or (hc : Grown h N b' N' (V k)) : h b' = none ∨ blk (V k) = some b' := by
  rcases hc with ⟨rfl, _, hf⟩ | ⟨_, n, c, cs, e, _⟩
  · exact .inl (hf _ (Nat.le_refl _))
  · exact .inr (by rw [e]; rfl)
theorem Blk.row_s (hb : Blk h N0 br bs bp n rc p V S) (ha : a < n) (hc : Grown h N b' N' (V a)) (hs : cs'.size = c' * 1) (hn : n' ≤ c') (hl : (ints (S a) ++ [Value.int .i64 (x : Int)]).length = n' * 1) (ht : cs'.toList.take (n' * 1) = ints (S a) ++ [Value.int .i64 (x : Int)])
    {vs : Array Value} (hv : h bs = some (.cells vs 25 (0, 0))) :
    Blk (hset (hset h b' (.cells cs' 3 (0, 0))) bs (.cells (setA vs a (.slice (some ⟨b', 0, none⟩) n' c')) 25 (0, 0))) N0 br bs bp n rc p (vp V a (.slice (some ⟨b', 0, none⟩) n' c')) (ap S a x) := by
  obtain ⟨vs', h1, h2, h2'⟩ := hb.s
  obtain ⟨us, h3, h4, h4'⟩ := hb.q
  rw [hv] at h1; cases h1
  have ho := hc.old hb (by omega)
  have lr := hb.lr
  have ls := hb.ls
  have lp := hb.lp
  refine ⟨?_, ⟨_, hset_same _ _ _, by simp [h2], fun i hi => ?_⟩, ⟨us, ?_, h4, fun i hi => ?_⟩, ?_, lr, ls, lp, hb.rs, hb.rp, hb.sp, z_set (z_set hb.z)⟩
  · rw [hset_ne _ _ hb.rs, hset_ne _ _ (by omega)]; exact hb.r
  · by_cases e : i = a
    · subst e; rw [setA_same _ _ (by omega)]; simp [vp]
    · rw [setA_ne _ _ (fun x => e x.symm), h2' i hi]; simp [vp, e]
  · rw [hset_ne _ _ hb.sp.symm, hset_ne _ _ (by omega)]; exact h3
  · rw [h4' i hi]; simp only [vp]; rw [if_neg (by omega)]
  · exact (hb.g.app (by omega) ho hc.or hs hn hl ht).low ls
theorem Blk.row_p (hb : Blk h N0 br bs bp n rc p V S) (ha : a < n) (hc : Grown h N b' N' (V (n + a))) (hs : cs'.size = c' * 1) (hn : n' ≤ c') (hl : (ints (S (n + a)) ++ [Value.int .i64 (x : Int)]).length = n' * 1) (ht : cs'.toList.take (n' * 1) = ints (S (n + a)) ++ [Value.int .i64 (x : Int)])
    {us : Array Value} (hv : h bp = some (.cells us 25 (0, 0))) :
    Blk (hset (hset h b' (.cells cs' 3 (0, 0))) bp (.cells (setA us a (.slice (some ⟨b', 0, none⟩) n' c')) 25 (0, 0))) N0 br bs bp n rc p (vp V (n + a) (.slice (some ⟨b', 0, none⟩) n' c')) (ap S (n + a) x) := by
  obtain ⟨vs, h1, h2, h2'⟩ := hb.s
  obtain ⟨us', h3, h4, h4'⟩ := hb.q
  rw [hv] at h3; cases h3
  have ho := hc.old hb (by omega)
  have lr := hb.lr
  have ls := hb.ls
  have lp := hb.lp
  refine ⟨?_, ⟨vs, ?_, h2, fun i hi => ?_⟩, ⟨_, hset_same _ _ _, by simp [h4], fun i hi => ?_⟩, ?_, lr, ls, lp, hb.rs, hb.rp, hb.sp, z_set (z_set hb.z)⟩
  · rw [hset_ne _ _ hb.rp, hset_ne _ _ (by omega)]; exact hb.r
  · rw [hset_ne _ _ hb.sp, hset_ne _ _ (by omega)]; exact h1
  · rw [h2' i hi]; simp only [vp]; rw [if_neg (by omega)]
  · by_cases e : i = a
    · subst e; rw [setA_same _ _ (by omega)]; simp [vp]
    · rw [setA_ne _ _ (fun x => e x.symm), h4' i hi]; simp only [vp]; rw [if_neg (by omega)]
  · exact (hb.g.app (by omega) ho hc.or hs hn hl ht).low lp

/-- A block that is no row's stays so. -/
theorem apart_vp {y m : Nat} (hy : ∀ l, l < m → blk (V l) ≠ some y) (hne : y ≠ b') : ∀ l, l < m → blk (vp V k (.slice (some ⟨b', 0, none⟩) n' c') l) ≠ some y := by
  intro l hl e
  by_cases h1 : l = k
  · simp only [vp, h1, if_true, blk] at e; cases e; exact hne rfl
  · simp only [vp, h1, if_false] at e; exact hy l hl e
theorem apart_old {m : Nat} (hg : Grid h N0 m V S) {y : Nat} (hy : y < N0 ∨ h y = none) : ∀ l, l < m → blk (V l) ≠ some y := by
  intro l hl e
  rcases hy with hy | hy
  · have := hg.old l y hl e; omega
  · obtain ⟨o, ho⟩ := (hg.own l hl).at e; rw [hy] at ho; cases ho
end

/-- The rows after c edges more. -/
def Sst (n k : Nat) (fa fb : Nat → Nat) : Nat → Nat → List Nat
  | 0 => fun _ => []
  | c + 1 => ap (ap (Sst n k fa fb c) (fa (k + c)) (fb (k + c))) (n + fb (k + c)) (fa (k + c))
end Sx
end Go.Proofs.YbulkcsqkGreatDoor
