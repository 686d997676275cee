import Derived.Test.YbulkcsqkGreatSxLaw
import Derived.Test.YbulkcsqkGreatRows
import Derived.ProofKit
import Derived.OpenShut
import Derived.Carry
namespace Go.Proofs.YbulkcsqkGreat
open Go.ChangeShapes Go.WideShapes Go.ChangeAt Go.RowKit

theorem Ybaz.own : ownKnob Ybaz.prog.godebug = none := by kernel_rfl
theorem Ybaz.laidOut : laidOutB Ybaz.prog = true := by kernel_rfl
theorem Ybaz.cells5 : Ybaz.prog.cellsOf 5 = 1 := by kernel_rfl
theorem Ybaz.cells9 : Ybaz.prog.cellsOf 9 = 1 := by kernel_rfl
theorem Ybaz.cells24 : Ybaz.prog.cellsOf 24 = 2 := by kernel_rfl
theorem Ybaz.cells25 : Ybaz.prog.cellsOf 25 = 1 := by kernel_rfl
theorem Ybaz.cells26 : Ybaz.prog.cellsOf 26 = 1 := by kernel_rfl
theorem Ybaz.cells28 : Ybaz.prog.cellsOf 28 = 11 := by kernel_rfl

theorem block_of {W : World} {b o : Nat} {v : Value} (h : W.cell? ⟨b, o, none⟩ = some v) : ∃ cs t f, W.heap[b]? = some (.cells cs t f) ∧ cs[o]? = some v := by
  unfold World.cell? at h
  split at h
  · split at h
    · cases h
    · rename_i cs t f hb _; exact ⟨_, _, _, hb, h⟩
  · cases h
theorem cell_in {W : World} {b o : Nat} {v : Value} {cs : Array Value} {t : TypeId} {f : Nat × Nat} (h : W.cell? ⟨b, o, none⟩ = some v) (hb : W.heap[b]? = some (.cells cs t f)) : cs[o]? = some v := by
  obtain ⟨cs', t', f', hb', h'⟩ := block_of h
  rw [hb] at hb'; cases hb'; exact h'

set_option maxRecDepth 100000
section
variable {H : Type} {enc : TypeId × Value → H} {W : World} {base : Nat} {spare : Nat → Bool} {held : Bool} {fuel : Nat} {x : DataW H × List MemPlace}
/-- Two bytes. -/
theorem two_bytes {cs : List Value} (h : DataW.trod enc Ybaz.prog W base spare held fuel 24 cs = some x) : ∃ a b : Nat, cs = [.int .u8 (a : Int), .int .u8 (b : Int)] ∧ a < 256 ∧ b < 256 := by
  obtain ⟨xs, m, _, _, hl, hlen, hel⟩ := DataW.trod_array Ybaz.underlying24 h
  rw [Ybaz.cells24] at hl
  have h0 := hel 0 (by decide)
  have h1 := hel 1 (by decide)
  rw [Ybaz.cells5, List.getElem?_eq_getElem (by omega)] at h0 h1
  obtain ⟨a, e0, _, w0⟩ := DataW.trod_int Ybaz.underlying5 h0
  obtain ⟨b, e1, _, w1⟩ := DataW.trod_int Ybaz.underlying5 h1
  obtain ⟨a0, a1⟩ := bounds_u8 w0
  obtain ⟨b0, b1⟩ := bounds_u8 w1
  match cs, hl, e0, e1 with
  | [c0, c1], _, e0, e1 =>
    simp at e0 e1
    subst e0 e1
    exact ⟨a.toNat, b.toNat, by rw [Int.toNat_of_nonneg a0, Int.toNat_of_nonneg b0], by omega, by omega⟩
/-- A row of bytes. -/
theorem bytes_of {cs : List Value} (h : DataW.trod enc Ybaz.prog W base spare held fuel 25 cs = some x) : ∃ (am : Option Addr) (cm : Nat) (ms : List Nat), cs = [.slice am ms.length cm] ∧ (∀ y, y ∈ ms → y < 256) ∧ ∀ (i y : Nat), ms[i]? = some y → ∃ bm om mc tm fm, am = some ⟨bm, om, none⟩ ∧ W.heap[bm]? = some (.cells mc tm fm) ∧ mc[om + i]? = some (.int .u8 (y : Int)) := by
  rcases DataW.trod_slice Ybaz.underlying25 h with ⟨h0, _⟩ | ⟨a, len, cap, elems, rest, n, _, hcs, _, _, _, _, hlen, hel, _, _⟩
  · exact ⟨none, 0, [], h0, (by simp), (by simp)⟩
  · rw [Ybaz.cells5] at hel
    have each : ∀ i, ∃ y : Nat, i < len → W.cell? (a.add i) = some (.int .u8 (y : Int)) ∧ y < 256 := by
      intro i
      by_cases hi : i < len
      · have h1 := hel i hi
        rw [List.getElem?_eq_getElem (by omega)] at h1
        obtain ⟨ds, hc, ht⟩ := Option.bind_eq_some_iff.1 h1
        obtain ⟨_, hl2, hcell⟩ := World.cells?_some hc
        obtain ⟨y, e0, _, w0⟩ := DataW.trod_int Ybaz.underlying5 ht
        obtain ⟨y0, y1⟩ := bounds_u8 w0
        subst e0
        have k0 := hcell 0 (by omega)
        refine ⟨y.toNat, fun _ => ⟨?_, by omega⟩⟩
        rw [Int.toNat_of_nonneg y0]
        simpa [Addr.add] using k0
      · exact ⟨0, fun h => absurd h hi⟩
    obtain ⟨f, hf⟩ := Classical.skolem.1 each
    refine ⟨some a, cap, (List.range len).map f, by rw [hcs]; simp, fun y hy => ?_, fun i y hy => ?_⟩
    · simp only [List.mem_map, List.mem_range] at hy
      obtain ⟨i, hi, rfl⟩ := hy
      exact (hf i hi).2
    · simp only [List.getElem?_map, Option.map_eq_some_iff] at hy
      obtain ⟨j, hj, rfl⟩ := hy
      have hj2 := List.getElem?_eq_some_iff.1 hj
      simp at hj2
      obtain ⟨hlt, rfl⟩ := hj2
      have k0 := (hf i hlt).1
      have k00 := (hf 0 (by omega)).1
      obtain ⟨b, off, spot⟩ := a
      have hspot : spot = none := by simpa [Addr.add] using World.cell?_spot k00
      subst hspot
      rw [add_plain] at k0
      obtain ⟨mc, tm, fm, hb, g⟩ := block_of k0
      exact ⟨b, off, mc, tm, fm, rfl, hb, g⟩
end

/-- What the second argument lays before the walk. -/
theorem pairs_of {H : Type} {enc : TypeId × Value → H} {W : World} {base : Nat} {v : Value} {d : DataW H} {p : List MemPlace} (hval : Value.okWide Ybaz.prog W .any base 22 v) (hd : DataW.Trod enc Ybaz.prog W 0 (fun _ => true) true 22 v d p) :
    ∃ (ao : Option Addr) (L C ba oa : Nat) (pc : Array Value) (tp : TypeId) (fp : Nat × Nat) (fx fy : Nat → Nat), v = .slice ao L C ∧ ∀ j, j < L → ao = some ⟨ba, oa, none⟩ ∧ W.heap[ba]? = some (.cells pc tp fp) ∧ oa + j * 2 + 2 ≤ pc.size ∧ (pc.toList.drop (oa + j * 2)).take 2 = [.int .u8 ((fx j : Nat) : Int), .int .u8 ((fy j : Nat) : Int)] ∧ fx j ≤ 255 ∧ fy j ≤ 255 := by
  obtain ⟨ao, L, C, rfl⟩ := okWide_slice Ybaz.underlying22 hval
  obtain ⟨fuel, hf⟩ := hd
  rcases DataW.trod_slice Ybaz.underlying22 hf with ⟨h0, _⟩ | ⟨a, len, cap, elems, rest, n, _, hcs, _, _, _, _, hlen, hel, _, _⟩
  · cases h0
    exact ⟨none, 0, 0, 0, 0, #[], 0, (0, 0), fun _ => 0, fun _ => 0, rfl, fun j hj => absurd hj (Nat.not_lt_zero _)⟩
  · cases hcs
    rw [Ybaz.cells24] at hel
    have each : ∀ j, ∃ xy : Nat × Nat, j < L → W.cell? (a.add (j * 2)) = some (.int .u8 ((xy.1 : Nat) : Int)) ∧ W.cell? ((a.add (j * 2)).add 1) = some (.int .u8 ((xy.2 : Nat) : Int)) ∧ xy.1 < 256 ∧ xy.2 < 256 := by
      intro j
      by_cases hj : j < L
      · have h1 := hel j hj
        rw [List.getElem?_eq_getElem (by omega)] at h1
        obtain ⟨cs, hc, ht⟩ := Option.bind_eq_some_iff.1 h1
        obtain ⟨_, hl2, hcell⟩ := World.cells?_some hc
        obtain ⟨x, y, rfl, hx, hy⟩ := two_bytes ht
        have k0 := hcell 0 (by omega)
        have k1 := hcell 1 (by omega)
        refine ⟨(x, y), fun _ => ⟨?_, k1, hx, hy⟩⟩
        simpa [Addr.add] using k0
      · exact ⟨(0, 0), fun h => absurd h hj⟩
    obtain ⟨f, hf2⟩ := Classical.skolem.1 each
    by_cases hL : L = 0
    · subst hL
      exact ⟨some a, 0, C, 0, 0, #[], 0, (0, 0), fun _ => 0, fun _ => 0, rfl, fun j hj => absurd hj (Nat.not_lt_zero _)⟩
    · have k0 := (hf2 0 (by omega)).1
      obtain ⟨b, off, spot⟩ := a
      have hspot : spot = none := by simpa [Addr.add] using World.cell?_spot k0
      subst hspot
      rw [add_plain] at k0
      obtain ⟨pc, tp, fp, hb, _⟩ := block_of k0
      refine ⟨_, L, C, b, off, pc, tp, fp, fun j => (f j).1, fun j => (f j).2, rfl, fun j hj => ?_⟩
      obtain ⟨k0, k1, b0, b1⟩ := hf2 j hj
      rw [add_plain] at k0 k1
      rw [add_plain] at k1
      have g0 := cell_in k0 hb
      have g1 := cell_in k1 hb
      have s1 : off + j * 2 + 1 < pc.size := (Array.getElem?_eq_some_iff.1 g1).1
      exact ⟨rfl, hb, by omega, Sx.take2 g0 g1, (by show (f j).1 ≤ 255; omega), (by show (f j).2 ≤ 255; omega)⟩

/-- What the fourth argument lays. -/
theorem groups_of {H : Type} {enc : TypeId × Value → H} {W : World} {base : Nat} {v : Value} {d : DataW H} {p : List MemPlace} (hval : Value.okWide Ybaz.prog W .any base 23 v) (hd : DataW.Trod enc Ybaz.prog W 0 (fun _ => true) true 23 v d p) :
    ∃ (ao : Option Addr) (L C ba oa : Nat) (pc : Array Value) (tp : TypeId) (fp : Nat × Nat) (rg : Nat → Sx.RawG), v = .slice ao L C ∧ ∀ j, j < L → ao = some ⟨ba, oa, none⟩ ∧ W.heap[ba]? = some (.cells pc tp fp) ∧ Sx.RawAt (fun b => W.heap[b]?) pc (oa + j * 11) (rg j) := by
  obtain ⟨ao, L, C, rfl⟩ := okWide_slice Ybaz.underlying23 hval
  obtain ⟨fuel, hf⟩ := hd
  let r0 : Sx.RawG := ⟨0, 0, 0, 0, 0, 0, 0, 0, 0, ⟨#[]⟩, []⟩
  rcases DataW.trod_slice Ybaz.underlying23 hf with ⟨h0, _⟩ | ⟨a, len, cap, elems, rest, n, _, hcs, _, _, _, _, hlen, hel, _, _⟩
  · cases h0
    exact ⟨none, 0, 0, 0, 0, #[], 0, (0, 0), fun _ => r0, rfl, fun j hj => absurd hj (Nat.not_lt_zero _)⟩
  · cases hcs
    rw [Ybaz.cells28] at hel
    by_cases hL : L = 0
    · subst hL
      exact ⟨some a, 0, C, 0, 0, #[], 0, (0, 0), fun _ => r0, rfl, fun j hj => absurd hj (Nat.not_lt_zero _)⟩
    have cellsAt : ∀ j, j < L → ∃ (cs : List Value) (y : DataW H × List MemPlace), cs.length = 11 ∧ (∀ i, i < 11 → W.cell? ((a.add (j * 11)).add i) = cs[i]?) ∧ DataW.trod enc Ybaz.prog W 0 (fun _ => true) true n 28 cs = some y := by
      intro j hj
      have h1 := hel j hj
      rw [List.getElem?_eq_getElem (by omega)] at h1
      obtain ⟨cs, hc, ht⟩ := Option.bind_eq_some_iff.1 h1
      obtain ⟨_, hl2, hcell⟩ := World.cells?_some hc
      exact ⟨cs, _, hl2, hcell, ht⟩
    obtain ⟨cs0, _, hl0, hc0, _⟩ := cellsAt 0 (by omega)
    have k0 := hc0 0 (by omega)
    rw [List.getElem?_eq_getElem (by omega)] at k0
    obtain ⟨b, off, spot⟩ := a
    have hspot : spot = none := by simpa [Addr.add] using World.cell?_spot k0
    subst hspot
    rw [add_plain, add_plain] at k0
    obtain ⟨pc, tp, fp, hb, _⟩ := block_of k0
    have each : ∀ j, ∃ r, j < L → Sx.RawAt (fun b => W.heap[b]?) pc (off + j * 11) r := by
      intro j
      by_cases hj : j < L
      case neg => exact ⟨r0, fun h => absurd h hj⟩
      obtain ⟨cs, y, hl, hc, ht⟩ := cellsAt j hj
      obtain ⟨xs, m, _, _, _, hxl, hfld⟩ := DataW.trod_struct Ybaz.underlying28 ht
      have hx7 : xs.length = 7 := hxl
      have get : ∀ i (hi : i < 7), xs[i]? = some (xs[i]'(by omega)) := fun i hi => List.getElem?_eq_getElem (by omega)
      have f0 := hfld 0 _ rfl
      have f1 := hfld 1 _ rfl
      have f2 := hfld 2 _ rfl
      have f3 := hfld 3 _ rfl
      have f4 := hfld 4 _ rfl
      have f5 := hfld 5 _ rfl
      have f6 := hfld 6 _ rfl
      rw [get 0 (by decide)] at f0
      rw [get 1 (by decide)] at f1
      rw [get 2 (by decide)] at f2
      rw [get 3 (by decide)] at f3
      rw [get 4 (by decide)] at f4
      rw [get 5 (by decide)] at f5
      rw [get 6 (by decide)] at f6
      obtain ⟨m0, m1, e0, l0, l1⟩ := two_bytes f0
      obtain ⟨a0, a1, e1, l2, l3⟩ := two_bytes f1
      obtain ⟨b0, b1, e2, l4, l5⟩ := two_bytes f2
      obtain ⟨am, cm, ms, e3, lm, hms⟩ := bytes_of f3
      obtain ⟨s0, s1, e4, l7, l8⟩ := two_bytes f4
      obtain ⟨kp, e5, _, wk⟩ := DataW.trod_int Ybaz.underlying26 f5
      obtain ⟨ab, e6, _, _⟩ := DataW.trod_string Ybaz.underlying9 f6
      obtain ⟨lk1, lk2⟩ := bounds_i8 wk
      have e0 : (cs.drop 0).take (Ybaz.prog.cellsOf 24) = _ := e0
      have e1 : (cs.drop 2).take (Ybaz.prog.cellsOf 24) = _ := e1
      have e2 : (cs.drop 4).take (Ybaz.prog.cellsOf 24) = _ := e2
      have e3 : (cs.drop 6).take (Ybaz.prog.cellsOf 25) = _ := e3
      have e4 : (cs.drop 7).take (Ybaz.prog.cellsOf 24) = _ := e4
      have e5 : (cs.drop 9).take (Ybaz.prog.cellsOf 26) = _ := e5
      have e6 : (cs.drop 10).take (Ybaz.prog.cellsOf 9) = _ := e6
      rw [Ybaz.cells24] at e0 e1 e2 e4
      rw [Ybaz.cells25] at e3
      rw [Ybaz.cells26] at e5
      rw [Ybaz.cells9] at e6
      have at1 : ∀ i v, i < 11 → cs[i]? = some v → pc[off + j * 11 + i]? = some v := fun i v hi hv => by
        have h1 := hc i hi
        rw [hv, add_plain, add_plain] at h1
        exact cell_in h1 hb
      have sub : ∀ (o k i : Nat) (l : List Value), (cs.drop o).take k = l → i < k → cs[o + i]? = l[i]? := fun o k i l h hi => by
        rw [← h, List.getElem?_take, if_pos hi, List.getElem?_drop]
      refine ⟨⟨m0, m1, a0, a1, b0, b1, s0, s1, kp, ab, ms⟩, fun _ => ⟨at1 0 _ (by decide) (sub 0 2 0 _ e0 (by decide)), at1 1 _ (by decide) (sub 0 2 1 _ e0 (by decide)), at1 2 _ (by decide) (sub 2 2 0 _ e1 (by decide)), at1 3 _ (by decide) (sub 2 2 1 _ e1 (by decide)), at1 4 _ (by decide) (sub 4 2 0 _ e2 (by decide)), at1 5 _ (by decide) (sub 4 2 1 _ e2 (by decide)), ⟨am, cm, at1 6 _ (by decide) (sub 6 1 0 _ e3 (by decide)), hms⟩, at1 7 _ (by decide) (sub 7 2 0 _ e4 (by decide)), at1 8 _ (by decide) (sub 7 2 1 _ e4 (by decide)), at1 9 _ (by decide) (sub 9 1 0 _ e5 (by decide)), at1 10 _ (by decide) (sub 10 1 0 _ e6 (by decide)), l0, l1, l2, l3, l4, l5, l7, l8, ⟨lk1, lk2⟩, lm⟩⟩
    obtain ⟨rg, hrg⟩ := Classical.skolem.1 each
    exact ⟨_, L, C, b, off, pc, tp, fp, rg, rfl, fun j hj => ⟨rfl, hb, hrg j hj⟩⟩

/-- The law's call, in the library's words. -/
theorem walk {W : World} {x z : Int} {raw : Bool} {ao ag : Option Addr} {L C ba oa Lg Cg bg og : Nat} {pc gc : Array Value} {tp tg : TypeId} {fp fg : Nat × Nat} {fx fy : Nat → Nat} {rg : Nat → Sx.RawG} (hx : (Lit.int .u8 x).wf = true) (hz : (Lit.int .u8 z).wf = true)
    (hp : ∀ j, j < L → ao = some ⟨ba, oa, none⟩ ∧ W.heap[ba]? = some (.cells pc tp fp) ∧ oa + j * 2 + 2 ≤ pc.size ∧ (pc.toList.drop (oa + j * 2)).take 2 = [.int .u8 ((fx j : Nat) : Int), .int .u8 ((fy j : Nat) : Int)] ∧ fx j ≤ 255 ∧ fy j ≤ 255)
    (hg : ∀ j, j < Lg → ag = some ⟨bg, og, none⟩ ∧ W.heap[bg]? = some (.cells gc tg fg) ∧ Sx.RawAt (fun b => W.heap[b]?) gc (og + j * 11) (rg j)) :
    Calls Ybaz.prog 3 #[.int .u8 x, .slice ao L C, .bool raw, .slice ag Lg Cg, .int .u8 z] W fun e W' => e = .returned (.bool true) ∧ Below W.heap.size W W' := by
  obtain ⟨x0, x1⟩ := bounds_u8 hx
  obtain ⟨z0, z1⟩ := bounds_u8 hz
  obtain ⟨x, rfl⟩ := Int.eq_ofNat_of_zero_le x0
  obtain ⟨z, rfl⟩ := Int.eq_ofNat_of_zero_le z0
  have h1 := Sx.law_ok (w0 := W) (h := fun b => W.heap[b]?) (N := W.heap.size) (n0 := x) (sp := z) (ce := C) (cg := Cg) (raw := raw) (by omega) (by omega) hp hg W ⟨fun _ => rfl, rfl, rfl, rfl, rfl, Nat.le_refl _⟩
  refine h1.mono ?_
  rintro e W' ⟨v, h', N', rfl, ha, rfl, hx'⟩
  refine ⟨rfl, ha.os, ha.tape, ha.output, ?_, fun k hk => ?_⟩
  · rcases Nat.lt_or_ge W'.heap.size W.heap.size with hlt | hge
    · have h2 := hx' W'.heap.size _ (Array.getElem?_eq_getElem hlt)
      rw [← ha.heap] at h2
      simp at h2
    · exact hge
  · rw [ha.heap, hx' k _ (Array.getElem?_eq_getElem hk)]
    exact (Array.getElem?_eq_getElem hk).symm

theorem lifted (os : Os) (started : os.Started) (H : Type) (enc : TypeId × Value → H) :
    ReturnsInHanded {} Ybaz.checked os 3 .any (Rows.lawS4716AYieldsSpec.pre6 enc Ybaz.prog Ybaz.f3 Rows.lawS4716AYieldsRow.domain false) (Rows.lawS4716AYieldsSpec.post enc Ybaz.prog Ybaz.f3 false true false false) := by
  refine returnsInHanded_of_change (C := Ybaz.checked) Ybaz.own started (by kernel_rfl) Ybaz.func3
    (ChangeSpec.witness6 (enc := enc) (C := Ybaz.checked) false ⟨#[], #[.int .u8 0, .slice none 0 0, .bool false, .slice none 0 0, .int .u8 0], []⟩ 8 (by kernel_rfl) (by kernel_rfl) (by kernel_rfl) (by kernel_rfl)) ?_
  intro W base args ds gs before hval0 hW _ _
  have hval : ∀ (j : Nat) t v, Ybaz.f3.params[j]? = some t → args[j]? = some v → Value.okWide Ybaz.prog W .any base t v := hval0
  have hW' := hW
  obtain ⟨p, q, hA0, hV, rfl, hfz, hnd⟩ := hW
  have hA : DataW.TrodAll enc Ybaz.prog W 0 (fun _ => true) true Ybaz.f3.params.toList args.toList ds p := hA0
  rw [Ybaz.params3] at hA hval
  obtain ⟨v0, vs0, d0, ds0, p0, q0, hargs, rfl, rfl, h0, r0⟩ := trodAll_cons hA
  obtain ⟨v1, vs1, d1, ds1, p1, q1, rfl, rfl, rfl, h1, r1⟩ := trodAll_cons r0
  obtain ⟨v2, vs2, d2, ds2, p2, q2, rfl, rfl, rfl, h2, r2⟩ := trodAll_cons r1
  obtain ⟨v3, vs3, d3, ds3, p3, q3, rfl, rfl, rfl, h3, r3⟩ := trodAll_cons r2
  obtain ⟨v4, vs4, d4, ds4, p4, q4, rfl, rfl, rfl, h4, r4⟩ := trodAll_cons r3
  obtain ⟨rfl, rfl, rfl⟩ := trodAll_nil r4
  obtain rfl : args = #[v0, v1, v2, v3, v4] := by cases args; simp_all
  obtain ⟨rfl, rfl⟩ := trodVars_none hV
  have h1k := h1
  have h3k := h3
  obtain ⟨x, rfl, rfl, rfl, wx⟩ := open_int Ybaz.underlying5 (hval 0 5 v0 rfl rfl) h0
  obtain ⟨bb, rfl, rfl, rfl⟩ := open_bool Ybaz.underlying4 (hval 2 4 v2 rfl rfl) h2
  obtain ⟨z, rfl, rfl, rfl, wz⟩ := open_int Ybaz.underlying5 (hval 4 5 v4 rfl rfl) h4
  obtain ⟨ao, L, C, ba, oa, pc, tp, fp, fx, fy, rfl, hp⟩ := pairs_of (hval 1 22 v1 rfl rfl) h1
  obtain ⟨ag, Lg, Cg, bg, og, gc, tg, fg, rg, rfl, hg⟩ := groups_of (hval 3 23 v3 rfl rfl) h3
  clear hA0 hval0
  refine (walk wx wz hp hg).mono fun e W' ⟨he, hb⟩ => ?_
  subst he
  have hlt1 : ∀ y ∈ p1, y.block < W.heap.size := fun y hy => by simpa using hW'.lt y (by simp [hy])
  have hlt3 : ∀ y ∈ p3, y.block < W.heap.size := fun y hy => by simpa using hW'.lt y (by simp [hy])
  refine ⟨_, rfl, _, _, _, [], [] ++ (p1 ++ ([] ++ (p3 ++ ([] ++ [])))), [], hW', ?_, ?_, ?_, hb.frame _, fun h => by cases h⟩
  · exact trodAll_mk1 (shut_bool Ybaz.underlying4 true)
  · exact trodAll_cons_mk (shut_int Ybaz.underlying5 wx) (trodAll_cons_mk (Below.trod Ybaz.laidOut (by kernel_rfl) (of_decide_eq_true (by kernel_rfl)) h1k hb hlt1) (trodAll_cons_mk (shut_bool Ybaz.underlying4 bb) (trodAll_cons_mk (Below.trod Ybaz.laidOut (by kernel_rfl) (of_decide_eq_true (by kernel_rfl)) h3k hb hlt3) (trodAll_cons_mk (shut_int Ybaz.underlying5 wz) trodAll_mk0))))
  · rfl

theorem lawS4716AYields_holds : Rows.LawS4716AYieldsSaid :=
  OpenClaim.holds_of_wide 3 Ybaz.f3 rfl rfl rfl rfl rfl rfl rfl ⟨rfl, rfl, rfl, rfl, rfl⟩ rfl rfl rfl rfl rfl (by kernel_rfl) Ybaz.func3 (by kernel_rfl)
    (of_decide_eq_true (by kernel_rfl)) (by unfold Func.isWrapper; first | (rw [if_pos (by decide +kernel)]; kernel_rfl) | (rw [if_neg (by decide +kernel)]; exact ⟨rfl, rfl⟩))
    (fun os started H enc _ => lifted os started H enc)
end Go.Proofs.YbulkcsqkGreat
