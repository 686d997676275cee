import Derived.Test.YbulkcsqkGreatDoorSxFun
import Derived.Test.YbulkcsqkGreatDoorProg
import Derived.KernelRfl
namespace Go.Proofs.YbulkcsqkGreatDoor
namespace Sx
set_option maxRecDepth 100000

def look {α : Type} : List (Nat × α) → Nat → Option α
  | [], _ => none
  | (k, a) :: ps, t => cond (Nat.beq t k) (some a) (look ps t)
theorem look_mem {α : Type} {t : Nat} {a : α} : ∀ {l : List (Nat × α)}, look l t = some a → (t, a) ∈ l
  | (k, b) :: ps, h => by
    simp only [look] at h
    cases hb : Nat.beq t k with
    | true => rw [hb] at h; simp at h; obtain rfl := Nat.eq_of_beq_eq_true hb; rw [← h]; exact List.mem_cons_self
    | false => rw [hb] at h; exact List.mem_cons_of_mem _ (look_mem h)
theorem of_maps {α β : Type} {f g : α → β} {l : List α} (h : l.map f = l.map g) : ∀ a ∈ l, f a = g a := by
  intro a ha
  obtain ⟨i, hi⟩ := List.mem_iff_getElem?.1 ha
  have h1 : (l.map f)[i]? = (l.map g)[i]? := by rw [h]
  simpa [hi] using h1

def tyTab : List (Nat × Bool × Nat × Nat × Value) := [(3, false, 1, 8, .int .i64 0),
  (4, false, 1, 1, .bool false),
  (5, false, 1, 1, .int .u8 0),
  (9, false, 1, 16, .string ByteArray.empty),
  (24, false, 1, 24, .slice none 0 0),
  (25, false, 1, 24, .slice none 0 0),
  (26, false, 1, 8, .pointer none),
  (30, false, 1, 24, .slice none 0 0),
  (31, false, 1, 24, .slice none 0 0),
  (36, true, 9, 168, .agg #[.slice none 0 0, .slice none 0 0, .slice none 0 0, .slice none 0 0, .slice none 0 0, .slice none 0 0, .nilFunc, .nilFunc, .nilFunc]),
  (37, false, 1, 24, .slice none 0 0),
  (39, true, 5, 120, .agg #[.slice none 0 0, .slice none 0 0, .slice none 0 0, .slice none 0 0, .slice none 0 0]),
  (40, false, 1, 1, .int .u8 0),
  (41, false, 1, 24, .slice none 0 0),
  (43, true, 3, 56, .agg #[.int .i64 0, .slice none 0 0, .slice none 0 0]),
  (52, true, 14, 272, .agg #[.pointer none, .slice none 0 0, .int .i64 0, .slice none 0 0, .slice none 0 0, .int .i64 0, .int .i64 0, .slice none 0 0, .slice none 0 0, .slice none 0 0, .slice none 0 0, .slice none 0 0, .slice none 0 0, .slice none 0 0]),
  (57, false, 1, 24, .slice none 0 0),
  (58, false, 1, 24, .slice none 0 0),
  (61, false, 1, 24, .slice none 0 0),
  (62, false, 1, 24, .slice none 0 0),
  (66, true, 2, 32, .agg #[.slice none 0 0, .int .i64 0]),
  (70, true, 83, 1600, .agg #[.int .i64 0, .slice none 0 0, .slice none 0 0, .slice none 0 0, .slice none 0 0, .slice none 0 0, .slice none 0 0, .slice none 0 0, .slice none 0 0, .nilFunc, .nilFunc, .nilFunc, .slice none 0 0, .slice none 0 0, .slice none 0 0, .slice none 0 0, .slice none 0 0, .slice none 0 0, .pointer none, .slice none 0 0, .int .i64 0, .slice none 0 0, .slice none 0 0, .int .i64 0, .int .i64 0, .slice none 0 0, .slice none 0 0, .slice none 0 0, .slice none 0 0, .slice none 0 0, .slice none 0 0, .slice none 0 0, .bool false, .int .i64 0, .slice none 0 0, .slice none 0 0, .slice none 0 0, .int .i64 0, .slice none 0 0, .slice none 0 0, .slice none 0 0, .slice none 0 0, .slice none 0 0, .bool false, .slice none 0 0, .slice none 0 0, .slice none 0 0, .slice none 0 0, .slice none 0 0, .slice none 0 0, .bool false, .slice none 0 0, .slice none 0 0, .slice none 0 0, .slice none 0 0, .slice none 0 0, .int .i64 0, .slice none 0 0, .int .i64 0, .slice none 0 0, .slice none 0 0, .int .i64 0, .slice none 0 0, .slice none 0 0, .slice none 0 0, .slice none 0 0, .int .i64 0, .slice none 0 0, .slice none 0 0, .slice none 0 0, .slice none 0 0, .slice none 0 0, .int .i64 0, .slice none 0 0, .int .i64 0, .slice none 0 0, .int .u8 0, .int .i64 0, .slice none 0 0, .pointer none, .bool false, .bool false, .slice none 0 0]),
  (72, true, 2, 2, .agg #[.int .u8 0, .int .u8 0]),
  (74, true, 2, 16, .agg #[.int .i64 0, .int .i64 0]),
  (76, true, 4, 32, .agg #[.int .i64 0, .int .i64 0, .int .i64 0, .int .i64 0]),
  (90, true, 3, 24, .agg #[.int .i64 0, .int .i64 0, .int .i64 0]),
  (99, false, 1, 8, .nilFunc),
  (130, true, 14, 136, .agg #[.int .i64 0, .bool false, .int .i64 0, .bool false, .int .i64 0, .bool false, .int .i64 0, .bool false, .slice none 0 0, .pointer none, .int .i64 0, .int .i64 0, .int .i64 0, .string ByteArray.empty]),
  (133, false, 1, 8, .pointer none),
  (134, false, 1, 8, .nilFunc),
  (136, true, 10, 192, .agg #[.slice none 0 0, .slice none 0 0, .slice none 0 0, .slice none 0 0, .slice none 0 0, .bool false, .nilFunc, .nilFunc, .slice none 0 0, .slice none 0 0]),
  (139, false, 1, 8, .nilFunc),
  (147, true, 2, 2, .agg #[.bool false, .bool false]),
  (181, false, 1, 8, .int .u64 0),
  (187, false, 1, 8, .pointer none),
  (189, true, 3, 72, .agg #[.slice none 0 0, .slice none 0 0, .slice none 0 0])]
theorem tyTab1 : tyTab.map (fun p => (Ybaz.prog.underlying p.1).map aggB) = tyTab.map (fun p => some p.2.1) := by kernel_rfl
theorem tyTab2 : tyTab.map (fun p => (Ybaz.prog.info? p.1).map (fun i => (i.size, i.bytes, i.zero))) = tyTab.map (fun p => some (p.2.2.1, p.2.2.2.1, some p.2.2.2.2)) := by kernel_rfl
theorem ty {t : Nat} {ag : Bool} {n bytes : Nat} {z : Value} (h : look tyTab t = some (ag, n, bytes, z)) : Ty Ybaz.prog t ag n bytes z :=
  ⟨of_maps tyTab1 _ (look_mem h), of_maps tyTab2 _ (look_mem h)⟩
def slTab : List (Nat × Nat) := [(22, 72), (24, 9), (25, 3), (30, 130), (31, 189), (37, 25), (41, 181), (57, 74), (58, 41), (61, 3), (62, 90)]
theorem slTab1 : slTab.map (fun p => Ybaz.prog.underlying p.1) = slTab.map (fun p => some (.slice p.2)) := by kernel_rfl
theorem sl {t e : Nat} (h : look slTab t = some e) : Ybaz.prog.underlying t = some (.slice e) := of_maps slTab1 _ (look_mem h)
def arTab : List (Nat × Nat × Nat) := [(67, 2, 66)]
theorem arTab1 : arTab.map (fun p => Ybaz.prog.underlying p.1) = arTab.map (fun p => some (.array p.2.1 p.2.2)) := by kernel_rfl
theorem ar {t n e : Nat} (h : look arTab t = some (n, e)) : Ybaz.prog.underlying t = some (.array n e) := of_maps arTab1 _ (look_mem h)
def ikTab : List (Nat × IntKind) := [(3, .i64), (5, .u8), (23, .u16), (181, .u64), (196, .u64), (218, .u32)]
theorem ikTab1 : ikTab.map (fun p => Ybaz.prog.underlying p.1) = ikTab.map (fun p => some (.int p.2)) := by kernel_rfl
theorem ik {t : Nat} {k : IntKind} (h : look ikTab t = some k) : Ybaz.prog.underlying t = some (.int k) := of_maps ikTab1 _ (look_mem h)
def fldTab : List (Nat × Nat) := [(36000, 0), (36002, 2), (39001, 1), (39002, 2), (39003, 3), (39004, 4), (43000, 0), (43001, 1), (43002, 2), (52001, 1), (64000, 0), (64001, 1), (64002, 2), (66000, 0), (70000, 0), (70001, 3), (70002, 12), (70003, 17), (70004, 18), (70008, 37), (70010, 39), (70012, 41), (70013, 42), (70015, 44), (70016, 45), (70018, 47), (70022, 51), (70023, 52), (70025, 54), (70026, 55), (70027, 56), (70028, 57), (70029, 58), (70030, 59), (70031, 60), (70032, 61), (70033, 66), (70034, 71), (70035, 75), (70036, 76), (70040, 80), (72000, 0), (72001, 1), (74000, 0), (74001, 1), (76000, 0), (90002, 2), (130002, 8), (136000, 0), (136001, 5), (136002, 6), (136003, 7), (136004, 8), (136005, 9), (189002, 2)]
theorem fldTab1 : fldTab.map (fun p => fldOff Ybaz.prog (p.1 / 1000) (p.1 % 1000)) = fldTab.map (fun p => some p.2) := by kernel_rfl
theorem fld {s f off : Nat} (h : cond (Nat.blt f 1000) (look fldTab (s * 1000 + f)) none = some off) : fldOff Ybaz.prog s f = some off := by
  cases hb : Nat.blt f 1000 with
  | false => rw [hb] at h; cases h
  | true =>
    rw [hb] at h
    have hlt : f < 1000 := by rw [Nat.blt_eq] at hb; exact hb
    have := of_maps fldTab1 _ (look_mem h)
    simp only at this
    rw [show (s * 1000 + f) / 1000 = s from by omega, show (s * 1000 + f) % 1000 = f from by omega] at this
    exact this
theorem mixed : Ybaz.prog.follows .mixedOrders = true := by kernel_rfl
theorem ent3 : Enters Ybaz.prog 3 := enters_of Ybaz.func3 (by kernel_rfl) rfl
theorem ent4 : Enters Ybaz.prog 4 := enters_of Ybaz.func4 (by kernel_rfl) rfl
theorem ent5 : Enters Ybaz.prog 5 := enters_of Ybaz.func5 (by kernel_rfl) rfl
theorem ent6 : Enters Ybaz.prog 6 := enters_of Ybaz.func6 (by kernel_rfl) rfl
theorem ent7 : Enters Ybaz.prog 7 := enters_of Ybaz.func7 (by kernel_rfl) rfl
theorem ent8 : Enters Ybaz.prog 8 := enters_of Ybaz.func8 (by kernel_rfl) rfl
theorem ent9 : Enters Ybaz.prog 9 := enters_of Ybaz.func9 (by kernel_rfl) rfl
theorem ent10 : Enters Ybaz.prog 10 := enters_of Ybaz.func10 (by kernel_rfl) rfl
theorem ent11 : Enters Ybaz.prog 11 := enters_of Ybaz.func11 (by kernel_rfl) rfl
theorem ent12 : Enters Ybaz.prog 12 := enters_of Ybaz.func12 (by kernel_rfl) rfl
theorem ent13 : Enters Ybaz.prog 13 := enters_of Ybaz.func13 (by kernel_rfl) rfl
theorem ent14 : Enters Ybaz.prog 14 := enters_of Ybaz.func14 (by kernel_rfl) rfl
theorem ent15 : Enters Ybaz.prog 15 := enters_of Ybaz.func15 (by kernel_rfl) rfl
theorem ent16 : Enters Ybaz.prog 16 := enters_of Ybaz.func16 (by kernel_rfl) rfl
theorem ent17 : Enters Ybaz.prog 17 := enters_of Ybaz.func17 (by kernel_rfl) rfl
theorem ent18 : Enters Ybaz.prog 18 := enters_of Ybaz.func18 (by kernel_rfl) rfl
theorem ent19 : Enters Ybaz.prog 19 := enters_of Ybaz.func19 (by kernel_rfl) rfl
theorem ent22 : Enters Ybaz.prog 22 := enters_of Ybaz.func22 (by kernel_rfl) rfl
theorem ent30 : Enters Ybaz.prog 30 := enters_of Ybaz.func30 (by kernel_rfl) rfl
theorem ent31 : Enters Ybaz.prog 31 := enters_of Ybaz.func31 (by kernel_rfl) rfl
theorem ent32 : Enters Ybaz.prog 32 := enters_of Ybaz.func32 (by kernel_rfl) rfl
theorem ent33 : Enters Ybaz.prog 33 := enters_of Ybaz.func33 (by kernel_rfl) rfl
theorem ent34 : Enters Ybaz.prog 34 := enters_of Ybaz.func34 (by kernel_rfl) rfl
theorem ent35 : Enters Ybaz.prog 35 := enters_of Ybaz.func35 (by kernel_rfl) rfl
theorem ent36 : Enters Ybaz.prog 36 := enters_of Ybaz.func36 (by kernel_rfl) rfl
theorem ent37 : Enters Ybaz.prog 37 := enters_of Ybaz.func37 (by kernel_rfl) rfl
theorem ent38 : Enters Ybaz.prog 38 := enters_of Ybaz.func38 (by kernel_rfl) rfl
theorem ent39 : Enters Ybaz.prog 39 := enters_of Ybaz.func39 (by kernel_rfl) rfl
theorem ent40 : Enters Ybaz.prog 40 := enters_of Ybaz.func40 (by kernel_rfl) rfl
theorem ent41 : Enters Ybaz.prog 41 := enters_of Ybaz.func41 (by kernel_rfl) rfl
theorem ent42 : Enters Ybaz.prog 42 := enters_of Ybaz.func42 (by kernel_rfl) rfl
theorem ent43 : Enters Ybaz.prog 43 := enters_of Ybaz.func43 (by kernel_rfl) rfl
theorem ent44 : Enters Ybaz.prog 44 := enters_of Ybaz.func44 (by kernel_rfl) rfl
theorem ent45 : Enters Ybaz.prog 45 := enters_of Ybaz.func45 (by kernel_rfl) rfl
theorem ent46 : Enters Ybaz.prog 46 := enters_of Ybaz.func46 (by kernel_rfl) rfl
theorem ent47 : Enters Ybaz.prog 47 := enters_of Ybaz.func47 (by kernel_rfl) rfl
theorem ent65 : Enters Ybaz.prog 65 := enters_of Ybaz.func65 (by kernel_rfl) rfl
theorem ent66 : Enters Ybaz.prog 66 := enters_of Ybaz.func66 (by kernel_rfl) rfl
theorem ent67 : Enters Ybaz.prog 67 := enters_of Ybaz.func67 (by kernel_rfl) rfl
theorem ent68 : Enters Ybaz.prog 68 := enters_of Ybaz.func68 (by kernel_rfl) rfl
theorem ent69 : Enters Ybaz.prog 69 := enters_of Ybaz.func69 (by kernel_rfl) rfl
theorem ent70 : Enters Ybaz.prog 70 := enters_of Ybaz.func70 (by kernel_rfl) rfl
theorem ent71 : Enters Ybaz.prog 71 := enters_of Ybaz.func71 (by kernel_rfl) rfl
theorem ent72 : Enters Ybaz.prog 72 := enters_of Ybaz.func72 (by kernel_rfl) rfl
theorem ent83 : Enters Ybaz.prog 83 := enters_of Ybaz.func83 (by kernel_rfl) rfl
theorem ent84 : Enters Ybaz.prog 84 := enters_of Ybaz.func84 (by kernel_rfl) rfl
theorem ent85 : Enters Ybaz.prog 85 := enters_of Ybaz.func85 (by kernel_rfl) rfl
theorem ent86 : Enters Ybaz.prog 86 := enters_of Ybaz.func86 (by kernel_rfl) rfl
theorem ent87 : Enters Ybaz.prog 87 := enters_of Ybaz.func87 (by kernel_rfl) rfl
theorem ent88 : Enters Ybaz.prog 88 := enters_of Ybaz.func88 (by kernel_rfl) rfl
theorem ent89 : Enters Ybaz.prog 89 := enters_of Ybaz.func89 (by kernel_rfl) rfl
theorem ent90 : Enters Ybaz.prog 90 := enters_of Ybaz.func90 (by kernel_rfl) rfl
theorem ent91 : Enters Ybaz.prog 91 := enters_of Ybaz.func91 (by kernel_rfl) rfl
theorem ent92 : Enters Ybaz.prog 92 := enters_of Ybaz.func92 (by kernel_rfl) rfl
end Sx
end Go.Proofs.YbulkcsqkGreatDoor
