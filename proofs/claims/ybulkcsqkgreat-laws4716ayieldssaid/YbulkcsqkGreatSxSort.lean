import Derived.Test.YbulkcsqkGreatSxLeafA
import Derived.Shelf.Sort.Plain
import Derived.Shelf.Slices.In.SortNone
import Derived.Shelf.SlSortCmp.NoneTotal
import Derived.Shelf.SlicesG.Cmp
import Derived.Shelf.Lay
import Derived.Ground.SlsfProg
import Derived.Ground.SlgcProg
import Derived.Ground.NamesProg
namespace Go.Proofs.YbulkcsqkGreat
open Go.Shelf
shelf_lay Lays.n189 Nm 189 at Ybaz as Ybaz.sortL
shelf_lay_g SlLaysF.n6 Slsf 6 at Ybaz 31 as Ybaz.sortFL
shelf_lay_g SlLaysF0.n6 Slsf 6 at Ybaz 31 as Ybaz.sortF0
shelf_lay_g SlLaysC2.n5 Slgc 5 at Ybaz 27 as Ybaz.cmpL
namespace Sx
open Go.Shelf Go.RowKit Go.Lib Go.Sort
set_option maxRecDepth 10000
variable {w0 : World}

theorem putCells_take {α : Type} [Inhabited α] (enc : α → Value) (d : Array α) (cs : Array Value) (hd : d.size ≤ cs.size) : (putCells enc 0 d cs).toList.take d.size = d.toList.map enc := by
  apply List.ext_getElem?
  intro k
  rw [List.getElem?_take]
  by_cases hk : k < d.size
  · rw [if_pos hk]
    have h1 : cs[k]? = some cs[k] := Array.getElem?_eq_getElem (by omega)
    simp [putCells, hk, h1]
  · rw [if_neg hk]
    rw [List.getElem?_eq_none]
    simp; omega
theorem putCells_size {α : Type} [Inhabited α] (enc : α → Value) (d : Array α) (cs : Array Value) : (putCells enc 0 d cs).size = cs.size := by simp [putCells]

theorem row_bridge {α : Type} [Inhabited α] {enc : α → Value} {d : Array α} {h : Hp} {N b n : Nat} {w w' : World} {cs : Array Value} {te : TypeId} {fz : Nat × Nat} {os : Array Obj} (hw : At w0 h N w) (hb : h b = some (.cells cs te fz)) (hw' : w' = grow (putRow enc (Sort.ahead w n) b 0 d) os) :
    At w0 (fun c => w'.heap[c]?) w'.heap.size w' ∧ w'.heap[b]? = some (.cells (putCells enc 0 d cs) te fz) ∧ ∀ c o, c ≠ b → h c = some o → w'.heap[c]? = some o := by
  subst hw'
  have hlt := hw.lt hb
  rw [← hw.size] at hlt
  refine ⟨⟨fun _ => rfl, rfl, hw.tape, hw.os, hw.output, Nat.le_trans hw.dr (Nat.le_add_right _ _)⟩, ?_, ?_⟩
  · rw [heap_grow_old _ _ (by simpa using hlt)]
    show (w.heap.modify b (onCells (putCells enc 0 d)))[b]? = _
    rw [Array.getElem?_modify, if_pos rfl, hw.heap, hb]
    rfl
  · intro c o hc ho
    have hcl := hw.lt ho
    rw [← hw.size] at hcl
    rw [heap_grow_old _ _ (by simpa using hcl)]
    show (w.heap.modify b (onCells (putCells enc 0 d)))[c]? = _
    rw [Array.getElem?_modify, if_neg (fun e => hc e.symm), hw.heap]
    exact ho
/-- A row's block is turned, the rest stays. -/
theorem Sep.turned {m X h h' : Hp} {b : Nat} {o o' : Obj} (hS : Sep m X h) (hm : m b = some o') (hb : h' b = some o) (hk : ∀ c o, c ≠ b → h c = some o → h' c = some o) : Sep (hset m b o) X h' := by
  have hX : X b = none := (hS.dis b).resolve_left (by rw [hm]; exact fun e => by cases e)
  refine ⟨fun c q hc => ?_, fun c q hc => ?_, fun c => ?_⟩
  · by_cases e : c = b
    · subst e; rw [hset_same] at hc; cases hc; exact hb
    · rw [hset_ne _ _ e] at hc; exact hk c q e (hS.own _ _ hc)
  · have e : c ≠ b := ne_of_none hc hX
    exact hk c q e (hS.oth _ _ hc)
  · by_cases e : c = b
    · exact .inr (by rw [e]; exact hX)
    · rw [hset_ne _ _ e]; exact hS.dis c

theorem row_of {cs : Array Value} {xs : List Nat} (ht : cs.toList.take (xs.length * 1) = ints xs) (k : Nat) (hk : k < xs.length) : cs[k]? = some (.int .i64 ((xs[k] : Nat) : Int)) := by
  have e : (cs.toList.take (xs.length * 1))[k]? = (ints xs)[k]? := by rw [ht]
  rw [List.getElem?_take, if_pos (by omega)] at e
  rw [← Array.getElem?_toList, e]
  simp [ints, hk]

theorem sort_ok {m X h : Hp} {N : Nat} {v : Value} {xs : List Nat} (hS : Sep m X h) (ho : Own m 3 1 v (ints xs)) (hl : xs.length ≤ 1000) :
    CallsX Ybaz.prog w0 18 #[v] h N (fun u h' _ => u = .tuple #[] ∧ ∃ m' ys, Sep m' X h' ∧ ys.Perm xs ∧ Own m' 3 1 v (ints ys) ∧ ∀ c, blk v ≠ some c → m' c = m c) := by
  intro w hw
  have hown := ho
  rcases ho with ⟨rfl, h2⟩ | ⟨b, n, c, cs, rfl, h2, h3, h4, h5, h6⟩
  · have hc := Any.slices_Sort_int_none Ybaz.sortL none 0 w
    change Calls Ybaz.prog 18 _ _ _ at hc
    refine hc.mono ?_
    rintro e w' ⟨rfl, rfl⟩
    exact ⟨_, h, N, rfl, hw, rfl, m, xs, hS, List.Perm.refl _, hown, fun _ _ => rfl⟩
  have hn : n = xs.length := by simpa [ints] using h5.symm
  subst hn
  have hb := hS.own _ _ h2
  have hH : Holds (Value.int .i64) w b 0 (xs.map (fun (x : Nat) => (x : Int))).toArray := by
    intro j hj
    have hj' : j < xs.length := by simpa using hj
    refine ⟨?_, hw.thaw hb⟩
    rw [hw.cell hb, Nat.zero_add, row_of h6 j hj']
    rw [getElem!_pos _ j hj]
    simp
  have hc := Any.slices_Sort_int Ybaz.sortL b 0 c (xs.map (fun (x : Nat) => (x : Int))) w hH (by have := hw.lt hb; rw [hw.size]; exact this) (by simp; omega)
  change Calls Ybaz.prog 18 _ _ _ at hc
  rw [List.length_map] at hc
  refine hc.mono ?_
  rintro e w' ⟨rfl, q, os, hw'⟩
  obtain ⟨hA, hB, hC⟩ := row_bridge hw hb hw'
  have hp := List.mergeSort_perm (xs.map (fun (x : Nat) => (x : Int))) (fun x y => decide (x ≤ y))
  generalize List.mergeSort (xs.map (fun (x : Nat) => (x : Int))) (fun x y => decide (x ≤ y)) = zs at hp hB
  have hpos : ∀ z ∈ zs, ((z.toNat : Nat) : Int) = z := by
    intro z hz
    obtain ⟨x, _, rfl⟩ := List.mem_map.1 (hp.mem_iff.1 hz)
    simp
  have hys : ints (zs.map Int.toNat) = zs.map (Value.int .i64) := by
    simp only [ints, List.map_map]
    apply List.map_congr_left
    intro z hz
    simp only [Function.comp]
    rw [hpos z hz]
  have hlen : zs.length = xs.length := by rw [hp.length_eq]; simp
  have hperm : (zs.map Int.toNat).Perm xs := by
    have := hp.map Int.toNat
    rw [List.map_map] at this
    have e : (xs.map (Int.toNat ∘ fun (x : Nat) => (x : Int))) = xs := by
      conv => rhs; rw [← List.map_id xs]
      congr 1
    rw [e] at this; exact this
  refine ⟨_, _, _, rfl, hA, rfl, _, zs.map Int.toNat, hS.turned h2 hB hC, hperm, ?_, fun c' hc' => ?_⟩
  · refine .inr ⟨b, xs.length, c, _, rfl, hset_same _ _ _, by rw [putCells_size]; exact h3, h4, by simp [ints, hlen], ?_⟩
    have := putCells_take (Value.int .i64) zs.toArray cs (by simp; omega)
    simp only [List.size_toArray, hlen] at this
    rw [Nat.mul_one, this, hys]
  · exact hset_ne _ _ (fun e => hc' (by rw [e]; rfl))

/-! ### SortFunc by the place in an order -/
theorem cmp_ok {h : Hp} {N : Nat} {x y : Int} : CallsX Ybaz.prog w0 27 #[.int .i64 x, .int .i64 y] h N (fun u h' N' => u = .int .i64 (Lib.compareInt x y) ∧ h' = h ∧ N' = N) := by
  intro w hw
  have hc := AnyG.cmp_Compare_int Ybaz.cmpL x y w
  change Calls Ybaz.prog 27 _ _ _ at hc
  refine hc.mono ?_
  rintro e w' ⟨rfl, rfl⟩
  exact ⟨_, h, N, rfl, hw, rfl, rfl, rfl⟩

theorem byPlace_ok {h : Hp} {N bp bq n c x y : Nat} {pl : Array Value} {pf : Nat → Nat} {tp tq : TypeId} {fp fq : Nat × Nat} (hp : h bp = some (.cells #[.slice (some ⟨bq, 0, none⟩) n c] tp fp)) (hq : h bq = some (.cells pl tq fq)) (hv : ∀ i, i < n → pl[i]? = some (.int .i64 (pf i : Int))) (hx : x < n) (hy : y < n) :
    CallsX Ybaz.prog w0 26 #[.int .i64 (x : Int), .int .i64 (y : Int), .pointer (some ⟨bp, 0, none⟩)] h N (fun u h' N' => u = .int .i64 (Lib.compareInt (pf x) (pf y)) ∧ h' = h ∧ N' = N) := by
  refine calls_of Ybaz.func26 rfl Ybaz.ntmps26 (Nat.le_of_ble_eq_true rfl) ?_
  refine c_seq ?_
  refine c_region (by kernel_rfl) ?_
  refine st_q (ok_assign (v := .int _ _) rfl ⟨rfl, rfl, rfl⟩) ?_
  refine o_nil ?_
  refine n_then (c_seq ?_)
  refine c_draw mixed [] 10 rfl [((0, 1), [((1, 2), [((2, 2), [((3, 1), [((4, 1), [((5, 2), [((6, 2), [((7, 1), [((8, 1), [((9, 2), ())])])])])])])])])])] (by kernel_rfl) (by kernel_rfl) ?_
  refine w_r rfl (fun _ _ hExt => ok_load (ty rfl) rfl (hExt _ _ hp) (by rfl) ⟨rfl, rfl, rfl⟩) ?_
  refine w_p rfl (fun _ _ => ok_move (v := .int _ _) rfl ⟨rfl, rfl, rfl⟩) ?_
  refine w_p rfl (fun _ _ => ok_indexAddr (sl rfl) (ty rfl) rfl rfl (by omega) (by omega) (off := x) (by omega) ⟨rfl, rfl, rfl⟩) ?_
  refine w_r rfl (fun _ _ hExt => ok_load (ty rfl) rfl (hExt _ _ hq) (hv x hx) ⟨rfl, rfl, rfl⟩) ?_
  refine w_r rfl (fun _ _ hExt => ok_load (ty rfl) rfl (hExt _ _ hp) (by rfl) ⟨rfl, rfl, rfl⟩) ?_
  refine w_p rfl (fun _ _ => ok_move (v := .int _ _) rfl ⟨rfl, rfl, rfl⟩) ?_
  refine w_p rfl (fun _ _ => ok_indexAddr (sl rfl) (ty rfl) rfl rfl (by omega) (by omega) (off := y) (by omega) ⟨rfl, rfl, rfl⟩) ?_
  refine w_r rfl (fun _ _ hExt => ok_load (ty rfl) rfl (hExt _ _ hq) (hv y hy) ⟨rfl, rfl, rfl⟩) ?_
  refine w_r rfl (fun h' N' hExt => ok_call rfl ent27 (cmp_ok) rfl (fun _ _ _ hR => hR)) ?_
  refine w_p rfl (fun _ _ => ok_assign (v := .int _ _) rfl ⟨rfl, rfl, rfl⟩) ?_
  refine w_nil ?_
  refine n_then (c_ret ?_)
  exact r_leave (leave_tmp rfl rfl ⟨rfl, rfl, rfl⟩)
theorem at_drew {h : Hp} {N : Nat} {W w' : World} (h0 : ∀ b, W.heap[b]? = h b) (ha : At W h N w') : ∃ q, w' = W.drewN q := by
  refine ⟨w'.drawn - W.drawn, ?_⟩
  have hh : w'.heap = W.heap := by
    apply Array.ext_getElem?
    intro b
    rw [ha.heap, h0]
  have h1 := ha.tape
  have h2 := ha.os
  have h3 := ha.output
  have h4 := ha.dr
  cases w' with
  | mk heap tape drawn os output =>
    cases W with
    | mk heap' tape' drawn' os' output' =>
      simp only at hh h1 h2 h3 h4
      subst hh h1 h2 h3
      simp only [World.drewN]
      congr 1
      omega

def encF (n : Nat) (x : Fin (n + 1)) : Value := .int .i64 ((x.val : Nat) : Int)
def toF (n x : Nat) : Fin (n + 1) := if h : x < n + 1 then ⟨x, h⟩ else ⟨0, Nat.succ_pos n⟩
theorem toF_val {n x : Nat} (h : x < n + 1) : (toF n x).val = x := by simp [toF, h]
theorem lt_place {n : Nat} (pf : Nat → Nat) (x y : Fin (n + 1)) : ltOf (fun x y : Fin (n + 1) => Lib.compareInt (pf x.val) (pf y.val)) x y = decide (pf x.val < pf y.val) := by
  unfold ltOf Lib.compareInt
  by_cases h1 : (pf x.val : Int) < (pf y.val : Int)
  · have h1' : pf x.val < pf y.val := by omega
    simp [h1']
  · by_cases h2 : (pf y.val : Int) < (pf x.val : Int)
    · have h2' : ¬ pf x.val < pf y.val := by omega
      have h3' : pf y.val < pf x.val := by omega
      simp [h2', h3']
    · have h2' : ¬ pf x.val < pf y.val := by omega
      have h3' : ¬ pf y.val < pf x.val := by omega
      simp [h2', h3']
theorem swo_place {n : Nat} (pf : Nat → Nat) : SWO (ltOf fun x y : Fin (n + 1) => Lib.compareInt (pf x.val) (pf y.val)) where
  irrefl x := by rw [lt_place]; simp
  trans x y z h1 h2 := by rw [lt_place] at *; simp at *; omega
  ntrans x y z h1 h2 := by rw [lt_place] at *; simp at *; omega

theorem sortF_ok {m X h : Hp} {N bp bq n c : Nat} {v : Value} {xs : List Nat} {pl : Array Value} {pf : Nat → Nat} {tp tq : TypeId} {fp fq : Nat × Nat} (hS : Sep m X h) (ho : Own m 3 1 v (ints xs)) (hl : xs.length ≤ 1000) (hx : ∀ x ∈ xs, x < n)
    (hp : h bp = some (.cells #[.slice (some ⟨bq, 0, none⟩) n c] tp fp)) (hq : h bq = some (.cells pl tq fq)) (hv : ∀ i, i < n → pl[i]? = some (.int .i64 (pf i : Int))) (hbp : blk v ≠ some bp) (hbq : blk v ≠ some bq) :
    CallsX Ybaz.prog w0 31 #[v, .func (.func 26) #[] #[.pointer (some ⟨bp, 0, none⟩)]] h N (fun u h' _ => u = .tuple #[] ∧ ∃ m' ys, Sep m' X h' ∧ ys.Perm xs ∧ Own m' 3 1 v (ints ys) ∧ ∀ c, blk v ≠ some c → m' c = m c) := by
  intro w hw
  have hown := ho
  have none_case : ∀ (a : Option Addr) (cap : Nat), v = .slice a 0 cap → Calls Ybaz.prog 31 #[v, .func (.func 26) #[] #[.pointer (some ⟨bp, 0, none⟩)]] w (back w0 (fun u h' _ => u = .tuple #[] ∧ ∃ m' ys, Sep m' X h' ∧ ys.Perm xs ∧ Own m' 3 1 v (ints ys) ∧ ∀ c, blk v ≠ some c → m' c = m c)) := by
    rintro a cap rfl
    have hc := AnyF.slices_SortFunc_none Ybaz.sortF0 a cap (.func (.func 26) #[] #[.pointer (some ⟨bp, 0, none⟩)]) w
    change Calls Ybaz.prog 31 _ _ _ at hc
    refine hc.mono ?_
    rintro e w' ⟨rfl, rfl⟩
    exact ⟨_, h, N, rfl, hw, rfl, m, xs, hS, List.Perm.refl _, hown, fun _ _ => rfl⟩
  rcases ho with ⟨rfl, h2⟩ | ⟨b, n', c', cs, rfl, h2, h3, h4, h5, h6⟩
  · exact none_case none 0 rfl
  have hn : n' = xs.length := by simpa [ints] using h5.symm
  subst hn
  by_cases hx0 : xs = []
  · subst hx0; exact none_case _ _ rfl
  obtain ⟨n1, rfl⟩ : ∃ n1, n = n1 + 1 := by
    obtain ⟨x, hxm⟩ := List.exists_mem_of_ne_nil xs hx0
    exact ⟨n - 1, by have := hx x hxm; omega⟩
  have hb := hS.own _ _ h2
  have hbp' : bp ≠ b := fun e => hbp (by rw [e]; rfl)
  have hbq' : bq ≠ b := fun e => hbq (by rw [e]; rfl)
  have hval : ∀ x ∈ xs, ((toF n1 x).val : Nat) = x := fun x hxm => toF_val (hx x hxm)
  have hH : Holds (encF n1) w b 0 (xs.map (toF n1)).toArray := by
    intro j hj
    have hj' : j < xs.length := by simpa using hj
    refine ⟨?_, hw.thaw hb⟩
    rw [hw.cell hb, Nat.zero_add, row_of h6 j hj', getElem!_pos _ j hj]
    simp only [List.getElem_toArray, List.getElem_map, encF]
    rw [hval _ (List.getElem_mem hj')]
  have hcmp : CmpLays1 Ybaz.prog 26 #[.pointer (some ⟨bp, 0, none⟩)] (encF n1) (fun x y => Lib.compareInt (pf x.val) (pf y.val)) b 0 (xs.map (toF n1)).toArray.size w := by
    intro q os dk _ x y
    obtain ⟨_, _, hC⟩ := row_bridge (w' := sortWorld (encF n1) w b 0 q dk os) hw hb rfl
    generalize sortWorld (encF n1) w b 0 q dk os = W at hC ⊢
    have h1 := byPlace_ok (w0 := W) (h := fun b => W.heap[b]?) (N := W.heap.size) (hC _ _ hbp' hp) (hC _ _ hbq' hq) hv x.isLt y.isLt W ⟨fun _ => rfl, rfl, rfl, rfl, rfl, Nat.le_refl _⟩
    refine h1.mono ?_
    rintro e w' ⟨u, h', N', rfl, ha, rfl, rfl, rfl⟩
    obtain ⟨q', rfl⟩ := at_drew (fun _ => rfl) ha
    exact ⟨rfl, q', #[], by rw [grow_empty]⟩
  have hc := Any.slices_SortFunc Ybaz.sortFL (encF n1) (fun _ => rfl) (fun x y : Fin (n1 + 1) => Lib.compareInt (pf x.val) (pf y.val)) (swo_place pf) 26 #[.pointer (some ⟨bp, 0, none⟩)] b 0 c' (xs.map (toF n1)).toArray w ent26 hcmp hH (by have := hw.lt hb; rw [hw.size]; exact this) (by simp; omega)
  change Calls Ybaz.prog 31 _ _ _ at hc
  rw [List.size_toArray, List.length_map] at hc
  refine hc.mono ?_
  rintro e w' ⟨rfl, d', q, os, hperm, _, hw'⟩
  obtain ⟨hA, hB, hC⟩ := row_bridge hw hb hw'
  obtain ⟨hsz, _, hP⟩ := hperm
  simp only [List.size_toArray, List.length_map] at hsz
  have hP' : d'.toList.Perm (xs.map (toF n1)) := by
    have e1 : (d'.extract 0 xs.length).toList = d'.toList := by
      rw [← hsz]; simp
    have e2 : ((xs.map (toF n1)).toArray.extract 0 xs.length).toList = xs.map (toF n1) := by
      simp only [Array.toList_extract, List.extract_eq_take_drop, List.drop_zero, Nat.sub_zero]
      exact List.take_of_length_le (by simp)
    rw [e1, e2] at hP; exact hP
  have hperm2 : (d'.toList.map (fun x => x.val)).Perm xs := by
    have := hP'.map (fun x => x.val)
    rw [List.map_map] at this
    have e : xs.map ((fun x => x.val) ∘ toF n1) = xs := by
      conv => rhs; rw [← List.map_id xs]
      exact List.map_congr_left (fun x hxm => hval x hxm)
    rw [e] at this; exact this
  refine ⟨_, _, _, rfl, hA, rfl, _, d'.toList.map (fun x => x.val), hS.turned h2 hB hC, hperm2, ?_, fun c2 hc2 => ?_⟩
  · refine .inr ⟨b, xs.length, c', _, rfl, hset_same _ _ _, by rw [putCells_size]; exact h3, h4, by simp [ints, hsz], ?_⟩
    have := putCells_take (encF n1) d' cs (by omega)
    rw [hsz] at this
    rw [Nat.mul_one, this]
    simp [ints, encF]
  · exact hset_ne _ _ (fun e => hc2 (by rw [e]; rfl))
end Sx
end Go.Proofs.YbulkcsqkGreat
