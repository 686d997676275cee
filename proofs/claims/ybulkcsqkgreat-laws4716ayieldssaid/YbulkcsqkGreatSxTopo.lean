import Derived.Test.YbulkcsqkGreatSxCore
namespace Go.Proofs.YbulkcsqkGreat
namespace Sx

/-! ### A topological order, without Go -/
/-- How many nodes that are not in ord have an edge to j. -/
def cnt (n : Nat) (S : Nat → List Nat) (ord : List Nat) (j : Nat) : Nat := ((List.range n).filter (fun k => decide (k ∉ ord ∧ j ∈ S k))).length
/-- Each node of ord comes behind all that have an edge to it. -/
def Tp (n : Nat) (S : Nat → List Nat) (ord : List Nat) : Prop := ∀ l1 j l2, ord = l1 ++ j :: l2 → ∀ i, i < n → j ∈ S i → i ∈ l1

section
variable {n : Nat} {S : Nat → List Nat}
theorem cnt_zero {ord : List Nat} {j : Nat} : cnt n S ord j = 0 ↔ ∀ k, k < n → j ∈ S k → k ∈ ord := by
  unfold cnt
  rw [List.length_eq_zero_iff, List.filter_eq_nil_iff]
  constructor
  · intro h k hk hj
    have := h k (List.mem_range.2 hk)
    simp only [decide_eq_true_eq] at this
    exact Classical.byContradiction fun hn => this ⟨hn, hj⟩
  · intro h k hk
    simp only [decide_eq_true_eq]
    rintro ⟨h1, h2⟩
    exact h1 (h k (List.mem_range.1 hk) h2)
theorem filter_len_split {l : List Nat} (hn : l.Nodup) (p : Nat → Bool) {i : Nat} (hi : i ∈ l) (hp : p i = true) : (l.filter p).length = (l.filter (fun k => p k && !(k == i))).length + 1 := by
  induction l with
  | nil => cases hi
  | cons a l ih =>
    rw [List.nodup_cons] at hn
    by_cases e : a = i
    · subst e
      have hno : l.filter (fun k => p k && !(k == a)) = l.filter p := by
        apply List.filter_congr
        intro x hx
        have : x ≠ a := fun h => hn.1 (h ▸ hx)
        simp [this]
      simp [hp, hno]
    · have hi' : i ∈ l := by
        rcases List.mem_cons.1 hi with h | h
        · exact absurd h.symm e
        · exact h
      have := ih hn.2 hi'
      simp only [List.filter_cons]
      have ea : (a == i) = false := by simp [e]
      cases hpa : p a <;> simp [ea, this]
theorem cnt_add {ord : List Nat} {i j : Nat} (hi : i < n) (hio : i ∉ ord) : cnt n S ord j = cnt n S (ord ++ [i]) j + (if j ∈ S i then 1 else 0) := by
  have hmem : i ∈ List.range n := List.mem_range.2 hi
  by_cases hj : j ∈ S i
  · rw [if_pos hj]
    unfold cnt
    rw [filter_len_split List.nodup_range (fun k => decide (k ∉ ord ∧ j ∈ S k)) hmem (by simp [hio, hj])]
    congr 2
    apply List.filter_congr
    intro x _
    by_cases e : x = i <;> simp [e]
  · rw [if_neg hj, Nat.add_zero]
    unfold cnt
    congr 1
    apply List.filter_congr
    intro x _
    by_cases e : x = i
    · subst e; simp [hj]
    · simp [e]

/-- Between two nodes of the sort. -/
structure TInv (n : Nat) (S : Nat → List Nat) (ord rd : List Nat) (dg : Nat → Nat) : Prop where
  nd : (ord ++ rd).Nodup
  lt : ∀ j, j ∈ ord ++ rd → j < n
  deg : ∀ j, j < n → dg j = cnt n S ord j
  all : ∀ j, j < n → dg j = 0 → j ∈ ord ++ rd
  z : ∀ j, j ∈ rd → dg j = 0
  tp : Tp n S ord
/-- Within one: node i has come, q of its edges are counted down. -/
structure TMid (n : Nat) (S : Nat → List Nat) (ord : List Nat) (i : Nat) (rd : List Nat) (dg : Nat → Nat) (q : Nat) : Prop where
  nd : (ord ++ [i] ++ rd).Nodup
  lt : ∀ j, j ∈ ord ++ [i] ++ rd → j < n
  deg : ∀ j, j < n → dg j = cnt n S (ord ++ [i]) j + (if j ∈ (S i).drop q then 1 else 0)
  all : ∀ j, j < n → dg j = 0 → j ∈ ord ++ [i] ++ rd
  z : ∀ j, j ∈ rd → dg j = 0
  tp : Tp n S (ord ++ [i])

def dec (dg : Nat → Nat) (j : Nat) : Nat → Nat := fun k => if k = j then dg j - 1 else dg k

theorem TInv.perm {ord rd rd' : List Nat} {dg : Nat → Nat} (h : TInv n S ord rd dg) (hp : rd'.Perm rd) : TInv n S ord rd' dg := by
  have hpp : (ord ++ rd').Perm (ord ++ rd) := List.Perm.append_left ord hp
  exact ⟨hpp.nodup_iff.2 h.nd, fun j hj => h.lt j (hpp.mem_iff.1 hj), h.deg, fun j hj hz => hpp.mem_iff.2 (h.all j hj hz), fun j hj => h.z j (hp.mem_iff.1 hj), h.tp⟩
theorem TMid.perm {ord rd rd' : List Nat} {i q : Nat} {dg : Nat → Nat} (h : TMid n S ord i rd dg q) (hp : rd'.Perm rd) : TMid n S ord i rd' dg q := by
  have hpp : (ord ++ [i] ++ rd').Perm (ord ++ [i] ++ rd) := List.Perm.append_left _ hp
  exact ⟨hpp.nodup_iff.2 h.nd, fun j hj => h.lt j (hpp.mem_iff.1 hj), h.deg, fun j hj hz => hpp.mem_iff.2 (h.all j hj hz), fun j hj => h.z j (hp.mem_iff.1 hj), h.tp⟩

theorem TInv.pop {ord rd : List Nat} {i : Nat} {dg : Nat → Nat} (h : TInv n S ord (i :: rd) dg) : TMid n S ord i rd dg 0 := by
  have hi : i < n := h.lt i (by simp)
  have hnd := h.nd
  have hio : i ∉ ord := by
    rw [List.nodup_append] at hnd
    intro hm; exact hnd.2.2 i hm i (by simp) rfl
  have he : ord ++ [i] ++ rd = ord ++ i :: rd := by simp
  refine ⟨by rw [he]; exact h.nd, fun j hj => h.lt j (by rw [← he]; exact hj), fun j hj => ?_, fun j hj hz => by rw [he]; exact h.all j hj hz, fun j hj => h.z j (by simp [hj]), ?_⟩
  · rw [h.deg j hj, cnt_add hi hio]; simp
  · intro l1 j l2 hl k hk hjk
    rcases List.append_eq_append_iff.1 hl with ⟨a', h1, h2⟩ | ⟨c', h1, h2⟩
    · cases a' with
      | nil =>
        simp at h1 h2
        obtain ⟨rfl, rfl⟩ := h2
        have hz := h.z i (by simp)
        rw [h.deg i hi, cnt_zero] at hz
        rw [h1]; exact hz k hk hjk
      | cons x a' =>
        simp at h2
    · cases c' with
      | nil =>
        simp at h1 h2
        obtain ⟨rfl, rfl⟩ := h2
        have hz := h.z j (by simp)
        rw [h.deg j hi, cnt_zero] at hz
        rw [← h1]; exact hz k hk hjk
      | cons x c' =>
        simp at h2
        obtain ⟨rfl, h2⟩ := h2
        exact h.tp l1 j c' h1 k hk hjk

theorem TMid.done {ord rd : List Nat} {i : Nat} {dg : Nat → Nat} (h : TMid n S ord i rd dg (S i).length) : TInv n S (ord ++ [i]) rd dg :=
  ⟨h.nd, h.lt, fun j hj => by rw [h.deg j hj]; simp, h.all, h.z, h.tp⟩

theorem TMid.step {ord rd : List Nat} {i q j : Nat} {dg : Nat → Nat} (h : TMid n S ord i rd dg q) (hS : (S i).Nodup) (hj : (S i)[q]? = some j) (hjn : j < n) : 1 ≤ dg j ∧ ∀ rd', rd'.Perm (if dg j = 1 then j :: rd else rd) → TMid n S ord i rd' (dec dg j) (q + 1) := by
  have hq : q < (S i).length := (List.getElem?_eq_some_iff.1 hj).1
  have hdrop : (S i).drop q = j :: (S i).drop (q + 1) := by
    rw [List.drop_eq_getElem_cons hq]; rw [(List.getElem?_eq_some_iff.1 hj).2]
  have hjd : j ∈ (S i).drop q := by rw [hdrop]; simp
  have hjn2 : j ∉ (S i).drop (q + 1) := by
    have h1 : ((S i).drop q).Nodup := List.Nodup.sublist (List.drop_sublist _ _) hS
    rw [hdrop, List.nodup_cons] at h1
    exact h1.1
  have hdj := h.deg j hjn
  rw [if_pos hjd] at hdj
  have hi : i < n := h.lt i (by simp)
  have hjo : j ∉ ord ++ [i] := by
    intro hm
    have hjS : j ∈ S i := List.mem_of_getElem? hj
    obtain ⟨l1, l2, hl⟩ := List.append_of_mem hm
    have h1 := h.tp l1 j l2 hl i hi hjS
    have hnd : (ord ++ [i]).Nodup := (List.nodup_append.1 h.nd).1
    have hio : i ∉ ord := by
      rw [List.nodup_append] at hnd
      intro hm2; exact hnd.2.2 i hm2 i (by simp) rfl
    rcases List.append_eq_append_iff.1 hl with ⟨a', h2, h3⟩ | ⟨c', h2, h3⟩
    · cases a' with
      | nil => simp at h2 h3; rw [h2] at h1; exact hio h1
      | cons x a' => simp at h3
    · cases c' with
      | nil => simp at h2 h3; rw [← h2] at h1; exact hio h1
      | cons x c' => simp at h3; rw [h2] at hio; exact hio (by simp [h1])
  refine ⟨by omega, fun rd' hp => ?_⟩
  have hdd : ∀ k, k < n → dec dg j k = cnt n S (ord ++ [i]) k + (if k ∈ (S i).drop (q + 1) then 1 else 0) := by
    intro k hk
    by_cases e : k = j
    · subst e; simp only [dec, if_true]; rw [if_neg hjn2]; omega
    · simp only [dec, e, if_false]
      rw [h.deg k hk, hdrop]
      simp [e]
  by_cases h1 : dg j = 1
  · rw [if_pos h1] at hp
    have hrd : j ∉ rd := fun hm => by have := h.z j hm; omega
    refine TMid.perm (rd := j :: rd) ?_ hp
    refine ⟨?_, ?_, hdd, ?_, ?_, h.tp⟩
    · rw [List.nodup_append]
      have hnd := List.nodup_append.1 h.nd
      refine ⟨hnd.1, List.nodup_cons.2 ⟨hrd, hnd.2.1⟩, ?_⟩
      intro a ha b hb e
      rcases List.mem_cons.1 hb with rfl | hb
      · subst e; exact hjo ha
      · exact hnd.2.2 a ha b hb e
    · intro k hk
      simp only [List.mem_append, List.mem_cons] at hk
      rcases hk with hk | rfl | hk
      · exact h.lt k (by simp only [List.mem_append]; exact .inl (by simpa using hk))
      · exact hjn
      · exact h.lt k (by simp [hk])
    · intro k hk hz
      by_cases e : k = j
      · subst e; simp
      · simp only [dec, e, if_false] at hz
        have := h.all k hk hz
        simp only [List.mem_append, List.mem_cons] at this ⊢
        rcases this with h2 | h2
        · exact .inl h2
        · exact .inr (.inr h2)
    · intro k hk
      rcases List.mem_cons.1 hk with rfl | hk
      · simp only [dec, if_true]; omega
      · have hkj : k ≠ j := fun e => hrd (e ▸ hk)
        simp only [dec, hkj, if_false]; exact h.z k hk
  · rw [if_neg h1] at hp
    refine TMid.perm (rd := rd) ?_ hp
    refine ⟨h.nd, h.lt, hdd, ?_, ?_, h.tp⟩
    · intro k hk hz
      by_cases e : k = j
      · subst e; simp only [dec, if_true] at hz; omega
      · simp only [dec, e, if_false] at hz; exact h.all k hk hz
    · intro k hk
      have hkj : k ≠ j := fun e => by have := h.z k hk; rw [e] at this; omega
      simp only [dec, hkj, if_false]; exact h.z k hk

/-- What the end shows. -/
theorem TInv.stuck {ord : List Nat} {dg : Nat → Nat} (h : TInv n S ord [] dg) {j : Nat} (hj : j < n) : (0 < dg j ↔ j ∉ ord) := by
  constructor
  · intro h0 hm
    obtain ⟨l1, l2, hl⟩ := List.append_of_mem hm
    have h1 := h.tp l1 j l2 hl
    have : cnt n S ord j = 0 := cnt_zero.2 (fun k hk hjk => by rw [hl]; exact List.mem_append_left _ (h1 k hk hjk))
    rw [h.deg j hj] at h0; omega
  · intro hm
    rcases Nat.eq_zero_or_pos (dg j) with h0 | h0
    · have := h.all j hj h0; simp at this; exact absurd this hm
    · exact h0
theorem TInv.pred {ord : List Nat} {dg : Nat → Nat} (h : TInv n S ord [] dg) {j : Nat} (hj : j < n) (h0 : 0 < dg j) : ∃ k, k < n ∧ j ∈ S k ∧ 0 < dg k := by
  rw [h.deg j hj] at h0
  have : ¬ ∀ k, k < n → j ∈ S k → k ∈ ord := fun ha => by rw [cnt_zero.2 ha] at h0; omega
  simp only [Classical.not_forall] at this
  obtain ⟨k, hk, hjk, hko⟩ := this
  exact ⟨k, hk, hjk, (h.stuck hk).2 hko⟩
end
end Sx
end Go.Proofs.YbulkcsqkGreat
