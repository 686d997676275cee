import Derived.Test.YbulkcsqkGreatSxLeafC
import Derived.Test.YbulkcsqkGreatSxPlainB
namespace Go.Proofs.YbulkcsqkGreat
namespace Sx
/-! ### The choices of groups, without Go -/
structure Grp where
  x0 : Nat
  x1 : Nat
  y0 : Nat
  y1 : Nat
  f0 : Bool
  f1 : Bool
  e0 : Bool
  e1 : Bool
  ms : List Nat
  k0 : Int
  k1 : Int
  keep : Int
  ab : ByteArray
abbrev Rc := Nat × Nat × Nat × Nat × ByteArray
def rcell (r : Rc) : List Value := [.int .i64 (r.1 : Int), .int .i64 (r.2.1 : Int), .int .i64 (r.2.2.1 : Int), .int .i64 (r.2.2.2.1 : Int), .string r.2.2.2.2]
def rcells (l : List Rc) : List Value := l.flatMap rcell
def gcat {α : Type} (f : Nat → List α) : Nat → List α
  | 0 => []
  | j + 1 => gcat f j ++ f j
/-- The record of one member. -/
def Grp.rc (g : Grp) (i m : Nat) : Rc := (sw g.keep i (atN g.f0 g.x0 m) (atN g.e0 g.y0 m), sw g.keep i (atN g.f1 g.x1 m) (atN g.e1 g.y1 m), sw g.keep i (atN g.e0 g.y0 m) (atN g.f0 g.x0 m), sw g.keep i (atN g.e1 g.y1 m) (atN g.f1 g.x1 m), g.ab)
def Grp.skips (g : Grp) (m : Nat) : Bool := decide ((m : Int) = g.k0) || decide ((m : Int) = g.k1)
def Grp.holds (g : Grp) (B : Nat → Nat → Bool) (m : Nat) : Bool := B (atN g.f0 g.x0 m) (atN g.f1 g.x1 m) || B (atN g.e0 g.y0 m) (atN g.e1 g.y1 m)
def Grp.one (g : Grp) (B : Nat → Nat → Bool) (i : Nat) : List Rc := if g.skips (g.ms.getD i 0) || g.holds B (g.ms.getD i 0) then [] else [g.rc i (g.ms.getD i 0)]
def Grp.upto (g : Grp) (B : Nat → Nat → Bool) (q : Nat) : List Rc := gcat (g.one B) q
def gat (gl : List Grp) (B : Nat → Nat → Bool) (k : Nat) : List Rc := match gl[k]? with
  | some g => g.upto B g.ms.length
  | none => []
def allTo (gl : List Grp) (B : Nat → Nat → Bool) (k : Nat) : List Rc := gcat (gat gl B) k
theorem gcat_split {α : Type} (f : Nat → List α) {k n : Nat} (h : k < n) : ∃ C, gcat f n = gcat f k ++ (f k ++ C) := by
  induction n with
  | zero => omega
  | succ n ih =>
    by_cases e : k = n
    · subst e; exact ⟨[], by simp [gcat]⟩
    · obtain ⟨C, hC⟩ := ih (by omega)
      exact ⟨C ++ f n, by simp [gcat, hC]⟩
theorem gcat_len {α : Type} (f : Nat → List α) (hf : ∀ i, (f i).length ≤ 1) (q : Nat) : (gcat f q).length ≤ q := by
  induction q with
  | zero => simp [gcat]
  | succ q ih => have := hf q; simp only [gcat, List.length_append]; omega
theorem gcat_mul {α : Type} (f : Nat → List α) (c : Nat) (hf : ∀ i, (f i).length ≤ c) (q : Nat) : (gcat f q).length ≤ q * c := by
  induction q with
  | zero => simp [gcat]
  | succ q ih => have := hf q; simp only [gcat, List.length_append, Nat.succ_mul]; omega
theorem Grp.one_len (g : Grp) (B : Nat → Nat → Bool) (i : Nat) : (g.one B i).length ≤ 1 := by
  unfold Grp.one; split <;> simp
theorem Grp.upto_len (g : Grp) (B : Nat → Nat → Bool) (q : Nat) : (g.upto B q).length ≤ q := gcat_len _ (g.one_len B) q
theorem gat_len {gl : List Grp} (B : Nat → Nat → Bool) (hl : ∀ g, g ∈ gl → g.ms.length ≤ 1024) (k : Nat) : (gat gl B k).length ≤ 1024 := by
  unfold gat
  split
  · rename_i g hg
    exact Nat.le_trans (g.upto_len B _) (hl g (List.mem_of_getElem? hg))
  · simp
theorem allTo_len {gl : List Grp} (B : Nat → Nat → Bool) (hl : ∀ g, g ∈ gl → g.ms.length ≤ 1024) (k : Nat) : (allTo gl B k).length ≤ k * 1024 := gcat_mul _ _ (gat_len B hl) k
/-- Where a member's record stands among all. -/
theorem at_split {gl : List Grp} {B : Nat → Nat → Bool} {k q : Nat} {g : Grp} (hg : gl[k]? = some g) (hq : q < g.ms.length) : ∃ C, allTo gl B gl.length = allTo gl B k ++ g.upto B q ++ (g.one B q ++ C) := by
  have hk : k < gl.length := (List.getElem?_eq_some_iff.1 hg).1
  obtain ⟨C1, h1⟩ := gcat_split (gat gl B) hk
  obtain ⟨C2, h2⟩ := gcat_split (g.one B) hq
  refine ⟨C2 ++ C1, ?_⟩
  have h3 : gat gl B k = g.upto B g.ms.length := by unfold gat; rw [hg]
  unfold allTo
  rw [h1, h3]
  unfold Grp.upto
  rw [h2]; simp
theorem allTo_succ {gl : List Grp} {B : Nat → Nat → Bool} {k : Nat} {g : Grp} (hg : gl[k]? = some g) : allTo gl B (k + 1) = allTo gl B k ++ g.upto B g.ms.length := by
  show gcat (gat gl B) k ++ gat gl B k = _
  have h3 : gat gl B k = g.upto B g.ms.length := by unfold gat; rw [hg]
  rw [h3]; rfl
theorem upto_succ {g : Grp} {B : Nat → Nat → Bool} {q : Nat} : g.upto B (q + 1) = g.upto B q ++ g.one B q := rfl
/-- What a group must hold to. -/
structure Grp.Ok (g : Grp) (n : Nat) : Prop where
  fx : g.f0 = true → g.f1 = false
  ex : g.e0 = true → g.e1 = false
  b0 : g.x0 < n
  b1 : g.x1 < n
  b2 : g.y0 < n
  b3 : g.y1 < n
  ml : g.ms.length ≤ 1024
  mb : ∀ m, m ∈ g.ms → m < n
  m0 : ∀ m, m ∈ g.ms → atN g.f0 g.x0 m < n
  m1 : ∀ m, m ∈ g.ms → atN g.f1 g.x1 m < n
  m2 : ∀ m, m ∈ g.ms → atN g.e0 g.y0 m < n
  m3 : ∀ m, m ∈ g.ms → atN g.e1 g.y1 m < n
/-- A group laid out, its members in a row of their own. -/
def GrpAt (Y : Hp) (gc : Array Value) (o : Nat) (g : Grp) : Prop := ∃ bm c ms, GC gc o g.x0 g.x1 g.y0 g.y1 g.f0 g.f1 g.e0 g.e1 bm g.ms.length c g.k0 g.k1 g.keep (.string g.ab) ∧ Y bm = some (.cells ms 3 (0, 0)) ∧ ∀ (i m : Nat), g.ms[i]? = some m → ms[i]? = some (.int .i64 (m : Int))
theorem GrpAt.ext {Y Y' : Hp} {gc : Array Value} {o : Nat} {g : Grp} (hg : GrpAt Y gc o g) (hx : Ext Y Y') : GrpAt Y' gc o g := by
  obtain ⟨bm, c, ms, h1, h2, h3⟩ := hg
  exact ⟨bm, c, ms, h1, hx _ _ h2, h3⟩
end Sx
end Go.Proofs.YbulkcsqkGreat
