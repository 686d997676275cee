import Derived.Test.YbulkcsqkGreatSxBM
namespace Go.Proofs.YbulkcsqkGreat
namespace Sx
/-- A group as the input gives it. -/
structure RawG where
  m0 : Nat
  m1 : Nat
  a0 : Nat
  a1 : Nat
  b0 : Nat
  b1 : Nat
  s0 : Nat
  s1 : Nat
  keep : Int
  ab : ByteArray
  ms : List Nat
structure RawAt (h : Hp) (gc : Array Value) (o : Nat) (r : RawG) : Prop where
  c0 : gc[o + 0]? = some (.int .u8 (r.m0 : Int))
  c1 : gc[o + 1]? = some (.int .u8 (r.m1 : Int))
  c2 : gc[o + 2]? = some (.int .u8 (r.a0 : Int))
  c3 : gc[o + 3]? = some (.int .u8 (r.a1 : Int))
  c4 : gc[o + 4]? = some (.int .u8 (r.b0 : Int))
  c5 : gc[o + 5]? = some (.int .u8 (r.b1 : Int))
  c6 : ∃ am cm, gc[o + 6]? = some (.slice am r.ms.length cm) ∧ ∀ (i x : Nat), r.ms[i]? = some x → ∃ bm om mc tm fm, am = some ⟨bm, om, none⟩ ∧ h bm = some (.cells mc tm fm) ∧ mc[om + i]? = some (.int .u8 (x : Int))
  c7 : gc[o + 7]? = some (.int .u8 (r.s0 : Int))
  c8 : gc[o + 8]? = some (.int .u8 (r.s1 : Int))
  c9 : gc[o + 9]? = some (.int .i8 r.keep)
  c10 : gc[o + 10]? = some (.string r.ab)
  l0 : r.m0 < 256
  l1 : r.m1 < 256
  l2 : r.a0 < 256
  l3 : r.a1 < 256
  l4 : r.b0 < 256
  l5 : r.b1 < 256
  l7 : r.s0 < 256
  l8 : r.s1 < 256
  lk : -128 ≤ r.keep ∧ r.keep ≤ 127
  lm : ∀ x, x ∈ r.ms → x < 256
theorem RawAt.ext {h h' : Hp} {gc : Array Value} {o : Nat} {r : RawG} (hr : RawAt h gc o r) (hx : Ext h h') : RawAt h' gc o r := by
  obtain ⟨am, cm, h1, h2⟩ := hr.c6
  refine { hr with c6 := ⟨am, cm, h1, fun i x hi => ?_⟩ }
  obtain ⟨bm, om, mc, tm, fm, e, h3, h4⟩ := h2 i x hi
  exact ⟨bm, om, mc, tm, fm, e, hx _ _ h3, h4⟩
def room (n : Nat) (r : RawG) : Nat := n - max (poff r.m0 r.a0 r.b0 n) (poff r.m1 r.a1 r.b1 n)
theorem poff_lt {md a b n : Nat} (hn : 0 < n) : poff md a b n < n := by
  unfold poff
  split
  · exact Nat.mod_lt _ hn
  · split
    · exact Nat.mod_lt _ hn
    · exact hn
theorem room_pos {n : Nat} (hn : 0 < n) (r : RawG) : 0 < room n r := by
  have h1 := poff_lt (md := r.m0) (a := r.a0) (b := r.b0) hn
  have h2 := poff_lt (md := r.m1) (a := r.a1) (b := r.b1) hn
  unfold room; omega
def grpOf (n : Nat) (r : RawG) : Grp where
  x0 := r.a0 % n
  x1 := r.b0 % n
  y0 := r.a1 % n
  y1 := r.b1 % n
  f0 := decide (r.m0 % 3 = 0)
  f1 := decide (r.m0 % 3 = 1)
  e0 := decide (r.m1 % 3 = 0)
  e1 := decide (r.m1 % 3 = 1)
  ms := r.ms.map (· % room n r)
  k0 := ((r.s0 % (n + 1) : Nat) : Int) - 1
  k1 := ((r.s1 % (n + 1) : Nat) : Int) - 1
  keep := r.keep
  ab := r.ab
theorem atN_lt0 {md a b n m : Nat} (hn : 0 < n) (hm : m + poff md a b n < n) : atN (decide (md % 3 = 0)) (a % n) m < n ∧ atN (decide (md % 3 = 1)) (b % n) m < n := by
  have ha := Nat.mod_lt a hn
  have hb := Nat.mod_lt b hn
  unfold poff at hm
  unfold atN
  by_cases h0 : md % 3 = 0
  · rw [if_pos h0] at hm
    have h1 : ¬ md % 3 = 1 := by omega
    simp [h0]
    omega
  · rw [if_neg h0] at hm
    by_cases h1 : md % 3 = 1
    · rw [if_pos h1] at hm
      simp [h1]; omega
    · simp [h0, h1]; omega
theorem grp_ok {n : Nat} {r : RawG} (hn : 0 < n) (hl : r.ms.length ≤ 1024) : (grpOf n r).Ok n := by
  have hmem : ∀ m, m ∈ (grpOf n r).ms → m < room n r := by
    intro m hm
    simp only [grpOf, List.mem_map] at hm
    obtain ⟨x, _, rfl⟩ := hm
    exact Nat.mod_lt _ (room_pos hn r)
  have h1 := poff_lt (md := r.m0) (a := r.a0) (b := r.b0) hn
  have h2 := poff_lt (md := r.m1) (a := r.a1) (b := r.b1) hn
  have k1 : ∀ m, m ∈ (grpOf n r).ms → m + poff r.m0 r.a0 r.b0 n < n := fun m hm => by have := hmem m hm; unfold room at this; omega
  have k2 : ∀ m, m ∈ (grpOf n r).ms → m + poff r.m1 r.a1 r.b1 n < n := fun m hm => by have := hmem m hm; unfold room at this; omega
  refine ⟨fun h => ?_, fun h => ?_, Nat.mod_lt _ hn, Nat.mod_lt _ hn, Nat.mod_lt _ hn, Nat.mod_lt _ hn, by simpa [grpOf] using hl, fun m hm => by have := k1 m hm; omega, fun m hm => (atN_lt0 hn (k1 m hm)).1, fun m hm => (atN_lt0 hn (k1 m hm)).2, fun m hm => (atN_lt0 hn (k2 m hm)).1, fun m hm => (atN_lt0 hn (k2 m hm)).2⟩
  · simp only [grpOf, decide_eq_true_eq, decide_eq_false_iff_not] at h ⊢; omega
  · simp only [grpOf, decide_eq_true_eq, decide_eq_false_iff_not] at h ⊢; omega

/-! #### The groups' cells -/
def gcell (p : Grp × Nat) : List Value := [.int .i64 (p.1.x0 : Int), .bool p.1.f0, .int .i64 (p.1.x1 : Int), .bool p.1.f1, .int .i64 (p.1.y0 : Int), .bool p.1.e0, .int .i64 (p.1.y1 : Int), .bool p.1.e1, .slice (some ⟨p.2, 0, none⟩) p.1.ms.length p.1.ms.length, .pointer none, .int .i64 p.1.k0, .int .i64 p.1.k1, .int .i64 p.1.keep, .string p.1.ab]
theorem flat_get {α : Type} (f : α → List Value) (c : Nat) (hf : ∀ x, (f x).length = c) : ∀ (l : List α) (k j : Nat) (x : α), l[k]? = some x → j < c → (l.flatMap f)[k * c + j]? = (f x)[j]?
  | [], k, j, x, h, _ => by simp at h
  | a :: l, 0, j, x, h, hj => by
    simp at h; subst h
    rw [List.flatMap_cons, List.getElem?_append_left (by rw [hf]; omega)]
    simp
  | a :: l, k + 1, j, x, h, hj => by
    have ih := flat_get f c hf l k j x (by simpa using h) hj
    rw [List.flatMap_cons, List.getElem?_append_right (by rw [hf, Nat.succ_mul]; omega), hf, ← ih]
    congr 1
    rw [Nat.succ_mul]; omega
theorem flat_len {α : Type} (f : α → List Value) (c : Nat) (hf : ∀ x, (f x).length = c) (l : List α) : (l.flatMap f).length = l.length * c := by
  induction l with
  | nil => simp
  | cons a l ih => rw [List.flatMap_cons, List.length_append, ih, hf, List.length_cons, Nat.succ_mul]; omega
/-- The members' row of a group. -/
def MemAt (X : Hp) (p : Grp × Nat) : Prop := ∃ ms, X p.2 = some (.cells ms 3 (0, 0)) ∧ ∀ (i m : Nat), p.1.ms[i]? = some m → ms[i]? = some (.int .i64 (m : Int))
theorem grp_at {X : Hp} {n c : Nat} {gc : Array Value} {l : List (Grp × Nat)} (ht : gc.toList.take (n * 14) = l.flatMap gcell) (hl : (l.flatMap gcell).length = n * 14) (hz : gc.size = c * 14) (hn : n ≤ c) {k : Nat} {p : Grp × Nat} (hk : l[k]? = some p) (hm : MemAt X p) : GrpAt X gc (k * 14) p.1 := by
  have hkl : k < l.length := (List.getElem?_eq_some_iff.1 hk).1
  rw [flat_len gcell 14 (fun _ => rfl)] at hl
  have hln : l.length = n := by omega
  have get : ∀ j, j < 14 → gc[k * 14 + j]? = (gcell p)[j]? := by
    intro j hj
    rw [← flat_get gcell 14 (fun _ => rfl) l k j p hk hj, ← ht, List.getElem?_take, if_pos (by omega), Array.getElem?_toList]
  obtain ⟨ms, h1, h2⟩ := hm
  refine ⟨p.2, p.1.ms.length, ms, ⟨by omega, get 0 (by decide), get 1 (by decide), get 2 (by decide), get 3 (by decide), get 4 (by decide), get 5 (by decide), get 6 (by decide), get 7 (by decide), get 8 (by decide), get 10 (by decide), get 11 (by decide), get 12 (by decide), get 13 (by decide)⟩, h1, h2⟩
end Sx
end Go.Proofs.YbulkcsqkGreat
