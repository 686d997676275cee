import Derived.Test.YbulkcsqkGreatDoorSxLaw
import Derived.Test.YbulkcsqkGreatDoorRows
import Derived.ProofKit
import Derived.LaidMore
import Derived.OpenShut
import Derived.Stop.Joined
namespace Go.Proofs.YbulkcsqkGreatDoor
open Go.ChangeShapes Go.WideShapes Go.ChangeAt Go.RowKit

theorem Ybaz.own : ownKnob Ybaz.prog.godebug = none := by kernel_rfl
theorem Ybaz.laidOut : laidOutB Ybaz.prog = true := by kernel_rfl
theorem Ybaz.cells72 : Ybaz.prog.cellsOf 72 = 2 := by kernel_rfl
theorem Ybaz.cells5 : Ybaz.prog.cellsOf 5 = 1 := by kernel_rfl

theorem block_of {W : World} {b o : Nat} {v : Value} (h : W.cell? ⟨b, o, none⟩ = some v) : ∃ cs t f, W.heap[b]? = some (.cells cs t f) ∧ cs[o]? = some v := by
  unfold World.cell? at h
  split at h
  · split at h
    · cases h
    · rename_i cs t f hb _; exact ⟨_, _, _, hb, h⟩
  · cases h

def natAt (pc : Array Value) (o : Nat) : Nat :=
  match pc[o]? with
  | some (.int _ x) => x.toNat
  | _ => 0

set_option maxRecDepth 100000 in
/-- What the second argument lays before the walk. -/
theorem pairs_of {H : Type} {enc : TypeId × Value → H} {W : World} {base : Nat} {v : Value} {d : DataW H} {p : List MemPlace} (hval : Value.okWide Ybaz.prog W .any base 22 v) (hd : DataW.Trod enc Ybaz.prog W 0 (fun _ => true) true 22 v d p) :
    ∃ (ao : Option Addr) (L C ba oa : Nat) (pc : Array Value) (tp : TypeId) (fp : Nat × Nat) (fx fy : Nat → Nat), v = .slice ao L C ∧ ∀ j, j < L → ao = some ⟨ba, oa, none⟩ ∧ W.heap[ba]? = some (.cells pc tp fp) ∧ oa + j * 2 + 2 ≤ pc.size ∧ (pc.toList.drop (oa + j * 2)).take 2 = [.int .u8 ((fx j : Nat) : Int), .int .u8 ((fy j : Nat) : Int)] ∧ fx j ≤ 255 ∧ fy j ≤ 255 := by
  obtain ⟨ao, L, C, rfl⟩ := okWide_slice Ybaz.underlying22 hval
  obtain ⟨fuel, hf⟩ := hd
  rcases DataW.trod_slice Ybaz.underlying22 hf with ⟨h0, _⟩ | ⟨a, len, cap, elems, rest, n, _, hcs, _, _, _, _, hlen, hel, _, _⟩
  · cases h0
    exact ⟨none, 0, 0, 0, 0, #[], 0, (0, 0), fun _ => 0, fun _ => 0, rfl, fun j hj => absurd hj (Nat.not_lt_zero _)⟩
  · cases hcs
    rw [Ybaz.cells72] at hel
    have each : ∀ j, j < L → ∃ x y, W.cell? (a.add (j * 2)) = some (.int .u8 x) ∧ W.cell? ((a.add (j * 2)).add 1) = some (.int .u8 y) ∧ (Lit.int .u8 x).wf = true ∧ (Lit.int .u8 y).wf = true := by
      intro j hj
      have h1 := hel j hj
      obtain ⟨e, he⟩ : ∃ e, elems[j]? = some e := ⟨_, List.getElem?_eq_getElem (by omega)⟩
      rw [he] at h1
      obtain ⟨cs, hc, ht⟩ := Option.bind_eq_some_iff.1 h1
      obtain ⟨_, hl2, hcell⟩ := World.cells?_some hc
      obtain ⟨y0, y1, m, _, _, t0, t1⟩ := trod_struct2 Ybaz.underlying72 ht
      rw [Ybaz.cells5] at t0 t1
      obtain ⟨x, e0, _, w0⟩ := DataW.trod_int Ybaz.underlying5 t0
      obtain ⟨y, e1, _, w1⟩ := DataW.trod_int Ybaz.underlying5 t1
      match cs, hl2, e0, e1 with
      | [c0, c1], _, e0, e1 =>
        simp at e0 e1
        subst e0 e1
        have k0 := hcell 0 (by omega)
        have k1 := hcell 1 (by omega)
        refine ⟨x, y, ?_, k1, w0, w1⟩
        simpa [Addr.add] using k0
    by_cases hL : L = 0
    · subst hL
      exact ⟨some a, 0, C, 0, 0, #[], 0, (0, 0), fun _ => 0, fun _ => 0, rfl, fun j hj => absurd hj (Nat.not_lt_zero _)⟩
    · obtain ⟨x, y, k0, _⟩ := each 0 (by omega)
      obtain ⟨b, off, spot⟩ := a
      have hspot : spot = none := by simpa [Addr.add] using World.cell?_spot k0
      subst hspot
      rw [add_plain] at k0
      obtain ⟨pc, tp, fp, hb, _⟩ := block_of k0
      refine ⟨_, L, C, b, off, pc, tp, fp, fun j => natAt pc (off + j * 2), fun j => natAt pc (off + j * 2 + 1), rfl, fun j hj => ?_⟩
      obtain ⟨x, y, k0, k1, w0, w1⟩ := each j hj
      rw [add_plain] at k0 k1
      rw [add_plain] at k1
      obtain ⟨pc', tp', fp', hb', g0⟩ := block_of k0
      rw [hb] at hb'; cases hb'
      obtain ⟨pc', tp', fp', hb', g1⟩ := block_of k1
      rw [hb] at hb'; cases hb'
      obtain ⟨b0, b1⟩ := bounds_u8 w0
      obtain ⟨b2, b3⟩ := bounds_u8 w1
      have ex : ((natAt pc (off + j * 2) : Nat) : Int) = x := by simp only [natAt, g0]; omega
      have ey : ((natAt pc (off + j * 2 + 1) : Nat) : Int) = y := by simp only [natAt, g1]; omega
      have s1 : off + j * 2 + 1 < pc.size := (Array.getElem?_eq_some_iff.1 g1).1
      refine ⟨rfl, hb, by omega, ?_, (by show natAt pc (off + j * 2) ≤ 255; omega), (by show natAt pc (off + j * 2 + 1) ≤ 255; omega)⟩
      simp only [ex, ey]
      have l0 : pc.toList[off + j * 2]? = some (.int .u8 x) := by rw [Array.getElem?_toList]; exact g0
      have l1 : pc.toList[off + j * 2 + 1]? = some (.int .u8 y) := by rw [Array.getElem?_toList]; exact g1
      have d0 := List.getElem?_eq_some_iff.1 l0
      have d1 := List.getElem?_eq_some_iff.1 l1
      rw [List.drop_eq_getElem_cons d0.1, List.drop_eq_getElem_cons d1.1, d0.2, d1.2]
      rfl

/-- The law's call, in the library's words. -/
theorem walk {W : World} {x z : Int} {ao : Option Addr} {L C ba oa : Nat} {pc : Array Value} {tp : TypeId} {fp : Nat × Nat} {fx fy : Nat → Nat} (hx : (Lit.int .u8 x).wf = true) (hz : (Lit.int .u16 z).wf = true)
    (hp : ∀ j, j < L → ao = some ⟨ba, oa, none⟩ ∧ W.heap[ba]? = some (.cells pc tp fp) ∧ oa + j * 2 + 2 ≤ pc.size ∧ (pc.toList.drop (oa + j * 2)).take 2 = [.int .u8 ((fx j : Nat) : Int), .int .u8 ((fy j : Nat) : Int)] ∧ fx j ≤ 255 ∧ fy j ≤ 255) :
    Calls Ybaz.prog 3 #[.int .u8 x, .slice ao L C, .int .u16 z] W fun e W' => e = .returned (.bool true) ∧ Below W.heap.size W W' := by
  obtain ⟨x0, x1⟩ := bounds_u8 hx
  obtain ⟨z0, z1⟩ := bounds_u16 hz
  obtain ⟨x, rfl⟩ := Int.eq_ofNat_of_zero_le x0
  obtain ⟨z, rfl⟩ := Int.eq_ofNat_of_zero_le z0
  have h1 := Sx.law_ok (w0 := W) (h := fun b => W.heap[b]?) (N := W.heap.size) (x := x) (z := z) (C := C) (by omega) (by omega) hp W ⟨fun _ => rfl, rfl, rfl, rfl, rfl⟩
  refine h1.mono ?_
  rintro e W' ⟨v, h', N', rfl, ha, rfl, hx'⟩
  refine ⟨rfl, ha.os, ha.tape, ha.output, ?_, fun k hk => ?_⟩
  · rcases Nat.lt_or_ge W'.heap.size W.heap.size with hlt | hge
    · have h2 := hx' W'.heap.size _ (Array.getElem?_eq_getElem hlt)
      rw [← ha.heap] at h2
      simp at h2
    · exact hge
  · rw [ha.heap, hx' k _ (Array.getElem?_eq_getElem hk)]
    exact (Array.getElem?_eq_getElem hk).symm

/-- The door's own heap meets the condition. -/
theorem door_met (os : Os) (args : Array Value) : laidMetH Ybaz.prog Rows.lawS4716CTakenPlacedRow.laid ((World.doorLaid Ybaz.prog 14 os).forCall (fun _ _ => 0) ⟨#[], args, []⟩).memory :=
  laidMetH_of_parts3 (fuel := 8) (laidMet_of_run' 8 (by kernel_rfl) (by kernel_rfl)) (by kernel_rfl) (by kernel_rfl)

set_option maxRecDepth 100000 in
theorem lifted (os : Os) (started : os.Started) (H : Type) (enc : TypeId × Value → H) :
    ReturnsInHanded {} Ybaz.checked os 3 .any (fun w args => (Rows.lawS4716CTakenPlacedSpec.pre enc Ybaz.prog Ybaz.f3 [] false w args ∧ laidMetH Ybaz.prog Rows.lawS4716CTakenPlacedRow.laid w) ∧ sizedMet enc Ybaz.prog Ybaz.f3 (OpenSpec.ofChange Rows.lawS4716CTakenPlacedSpec) false w args)
      (Rows.lawS4716CTakenPlacedSpec.post enc Ybaz.prog Ybaz.f3 false true false false) := by
  refine returnsInHanded_of_change_and (C := Ybaz.checked) (X := fun w _ => laidMetH Ybaz.prog Rows.lawS4716CTakenPlacedRow.laid w) (fun _ _ _ hh h => h.of_heap hh) Ybaz.own started (by kernel_rfl) Ybaz.func3
    (ChangeSpec.witness_shaped (enc := enc) (C := Ybaz.checked) (os := os) (X := fun w _ => laidMetH Ybaz.prog Rows.lawS4716CTakenPlacedRow.laid w) false (World.doorLaid Ybaz.prog 14 os) #[.int .u8 0, .slice none 0 0, .int .u16 0] 8 rfl (World.shaped_of_RefB (by kernel_rfl) (by kernel_rfl)) (by kernel_rfl) (by kernel_rfl) (by kernel_rfl) (door_met os _)) ?_
  intro W base args ds gs before hval0 hW _ _ hL _
  have hval : ∀ (j : Nat) t v, Ybaz.f3.params[j]? = some t → args[j]? = some v → Value.okWide Ybaz.prog W .any base t v := hval0
  have hW' := hW
  obtain ⟨p, q, hA0, hV, rfl, hfz, hnd⟩ := hW
  have hA : DataW.TrodAll enc Ybaz.prog W 0 (fun _ => true) true Ybaz.f3.params.toList args.toList ds p := hA0
  rw [Ybaz.params3] at hA hval
  obtain ⟨v0, v1, v2, d0, d1, d2, p0, p1, p2, rfl, rfl, rfl, h0, h1, h2⟩ := trodAll_three hA
  obtain ⟨rfl, rfl⟩ := trodVars_none hV
  have h1k := h1
  obtain ⟨x, rfl, rfl, rfl, wx⟩ := open_int Ybaz.underlying5 (hval 0 5 v0 rfl rfl) h0
  obtain ⟨z, rfl, rfl, rfl, wz⟩ := open_int Ybaz.underlying23 (hval 2 23 v2 rfl rfl) h2
  obtain ⟨ao, L, C, ba, oa, pc, tp, fp, fx, fy, rfl, hp⟩ := pairs_of (hval 1 22 v1 rfl rfl) h1
  clear hA0 hval0
  refine (walk wx wz hp).mono fun e W' ⟨he, hb⟩ => ?_
  subst he
  have hlt : ∀ y ∈ p1, y.block < W.heap.size := fun y hy => by simpa using hW'.lt y (by simp [hy])
  refine ⟨_, rfl, _, _, _, [], [] ++ (p1 ++ []), [], hW', ?_, ?_, ?_, hb.frame _, fun h => by cases h⟩
  · exact trodAll_mk1 (shut_bool Ybaz.underlying4 true)
  · exact trodAll_mk3 (shut_int Ybaz.underlying5 wx) (Below.trod Ybaz.laidOut (by kernel_rfl) (of_decide_eq_true (by kernel_rfl)) h1k hb hlt) (shut_int Ybaz.underlying23 wz)
  · rfl

theorem lawS4716CTakenPlaced_holds : Rows.LawS4716CTakenPlacedSaid :=
  OpenClaim.holds_of_wide 3 Ybaz.f3 rfl rfl rfl rfl rfl rfl rfl ⟨rfl, rfl, rfl, rfl, rfl⟩ rfl rfl rfl rfl rfl (by kernel_rfl) Ybaz.func3 (by kernel_rfl)
    (of_decide_eq_true (by kernel_rfl)) (by unfold Func.isWrapper; first | (rw [if_pos (by decide +kernel)]; kernel_rfl) | (rw [if_neg (by decide +kernel)]; exact ⟨rfl, rfl⟩))
    (fun os started H enc _ => lifted os started H enc)
end Go.Proofs.YbulkcsqkGreatDoor
