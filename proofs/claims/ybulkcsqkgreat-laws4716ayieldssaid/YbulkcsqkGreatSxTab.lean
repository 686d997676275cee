import Derived.Test.YbulkcsqkGreatSxFun
import Derived.Test.YbulkcsqkGreatProg
import Derived.KernelRfl
namespace Go.Proofs.YbulkcsqkGreat
namespace Sx
set_option maxRecDepth 100000

def look {α : Type} : List (Nat × α) → Nat → Option α
  | [], _ => none
  | (k, a) :: ps, t => cond (Nat.beq t k) (some a) (look ps t)
theorem look_mem {α : Type} {t : Nat} {a : α} : ∀ {l : List (Nat × α)}, look l t = some a → (t, a) ∈ l
  | (k, b) :: ps, h => by
    simp only [look] at h
    cases hb : Nat.beq t k with
    | true => rw [hb] at h; simp at h; obtain rfl := Nat.eq_of_beq_eq_true hb; rw [← h]; exact List.mem_cons_self
    | false => rw [hb] at h; exact List.mem_cons_of_mem _ (look_mem h)
theorem of_maps {α β : Type} {f g : α → β} {l : List α} (h : l.map f = l.map g) : ∀ a ∈ l, f a = g a := by
  intro a ha
  obtain ⟨i, hi⟩ := List.mem_iff_getElem?.1 ha
  have h1 : (l.map f)[i]? = (l.map g)[i]? := by rw [h]
  simpa [hi] using h1

def tyTab : List (Nat × Bool × Nat × Nat × Value) := [(3, false, 1, 8, .int .i64 0),
  (4, false, 1, 1, .bool false),
  (5, false, 1, 1, .int .u8 0),
  (9, false, 1, 16, .string ByteArray.empty),
  (20, false, 1, 16, .nilIface),
  (24, true, 2, 2, .agg #[.int .u8 0, .int .u8 0]),
  (25, false, 1, 24, .slice none 0 0),
  (26, false, 1, 1, .int .i8 0),
  (28, true, 11, 56, .agg #[.int .u8 0, .int .u8 0, .int .u8 0, .int .u8 0, .int .u8 0, .int .u8 0, .slice none 0 0, .int .u8 0, .int .u8 0, .int .i8 0, .string ByteArray.empty]),
  (29, false, 1, 24, .slice none 0 0),
  (31, false, 1, 24, .slice none 0 0),
  (32, false, 1, 24, .slice none 0 0),
  (33, false, 1, 24, .slice none 0 0),
  (34, false, 1, 24, .slice none 0 0),
  (35, false, 1, 8, .nilFunc),
  (39, true, 9, 168, .agg #[.slice none 0 0, .slice none 0 0, .slice none 0 0, .slice none 0 0, .slice none 0 0, .slice none 0 0, .nilFunc, .nilFunc, .nilFunc]),
  (41, false, 1, 24, .slice none 0 0),
  (43, false, 1, 24, .slice none 0 0),
  (46, true, 2, 16, .agg #[.int .i64 0, .bool false]),
  (47, true, 4, 32, .agg #[.int .i64 0, .bool false, .int .i64 0, .bool false]),
  (49, true, 2, 16, .agg #[.int .i64 0, .int .i64 0]),
  (51, true, 14, 136, .agg #[.int .i64 0, .bool false, .int .i64 0, .bool false, .int .i64 0, .bool false, .int .i64 0, .bool false, .slice none 0 0, .pointer none, .int .i64 0, .int .i64 0, .int .i64 0, .string ByteArray.empty]),
  (56, true, 2, 16, .agg #[.int .i64 0, .int .i64 0]),
  (58, true, 4, 32, .agg #[.int .i64 0, .int .i64 0, .int .i64 0, .int .i64 0]),
  (60, true, 5, 48, .agg #[.int .i64 0, .int .i64 0, .int .i64 0, .int .i64 0, .string ByteArray.empty]),
  (62, false, 1, 8, .nilFunc),
  (65, false, 1, 8, .map none),
  (67, false, 1, 24, .slice none 0 0),
  (69, true, 5, 120, .agg #[.slice none 0 0, .slice none 0 0, .slice none 0 0, .slice none 0 0, .slice none 0 0]),
  (72, false, 1, 8, .nilFunc),
  (76, false, 1, 24, .slice none 0 0),
  (78, true, 3, 56, .agg #[.int .i64 0, .slice none 0 0, .slice none 0 0]),
  (80, false, 1, 8, .nilFunc),
  (85, false, 1, 8, .int .u64 0),
  (90, true, 3, 72, .agg #[.slice none 0 0, .slice none 0 0, .slice none 0 0]),
  (92, false, 1, 8, .pointer none),
  (97, false, 1, 24, .slice none 0 0),
  (99, true, 9, 216, .agg #[.slice none 0 0, .slice none 0 0, .slice none 0 0, .slice none 0 0, .slice none 0 0, .slice none 0 0, .slice none 0 0, .slice none 0 0, .slice none 0 0]),
  (100, false, 1, 8, .pointer none),
  (102, false, 1, 8, .nilFunc),
  (103, false, 1, 24, .slice none 0 0),
  (105, true, 10, 192, .agg #[.slice none 0 0, .slice none 0 0, .slice none 0 0, .slice none 0 0, .slice none 0 0, .bool false, .nilFunc, .nilFunc, .slice none 0 0, .slice none 0 0]),
  (108, false, 1, 8, .nilFunc),
  (117, false, 1, 8, .int .u64 0),
  (124, false, 1, 8, .pointer none),
  (126, true, 5, 104, .agg #[.int .i64 0, .slice none 0 0, .slice none 0 0, .slice none 0 0, .slice none 0 0]),
  (128, false, 1, 8, .nilFunc),
  (130, false, 1, 8, .pointer none),
  (153, false, 1, 4, .int .u32 0)]
theorem tyTab1 : tyTab.map (fun p => (Ybaz.prog.underlying p.1).map aggB) = tyTab.map (fun p => some p.2.1) := by kernel_rfl
theorem tyTab2 : tyTab.map (fun p => (Ybaz.prog.info? p.1).map (fun i => (i.size, i.bytes, i.zero))) = tyTab.map (fun p => some (p.2.2.1, p.2.2.2.1, some p.2.2.2.2)) := by kernel_rfl
theorem ty {t : Nat} {ag : Bool} {n bytes : Nat} {z : Value} (h : look tyTab t = some (ag, n, bytes, z)) : Ty Ybaz.prog t ag n bytes z :=
  ⟨of_maps tyTab1 _ (look_mem h), of_maps tyTab2 _ (look_mem h)⟩
def slTab : List (Nat × Nat) := [(22, 24), (23, 28), (25, 5), (29, 9), (31, 65), (32, 51), (33, 90), (34, 3), (40, 41), (41, 4), (43, 60), (67, 34), (76, 85), (97, 3), (103, 76)]
theorem slTab1 : slTab.map (fun p => Ybaz.prog.underlying p.1) = slTab.map (fun p => some (.slice p.2)) := by kernel_rfl
theorem sl {t e : Nat} (h : look slTab t = some e) : Ybaz.prog.underlying t = some (.slice e) := of_maps slTab1 _ (look_mem h)
def arTab : List (Nat × Nat × Nat) := [(24, 2, 5), (47, 2, 46), (49, 2, 3)]
theorem arTab1 : arTab.map (fun p => Ybaz.prog.underlying p.1) = arTab.map (fun p => some (.array p.2.1 p.2.2)) := by kernel_rfl
theorem ar {t n e : Nat} (h : look arTab t = some (n, e)) : Ybaz.prog.underlying t = some (.array n e) := of_maps arTab1 _ (look_mem h)
def ikTab : List (Nat × IntKind) := [(3, .i64), (5, .u8), (26, .i8), (85, .u64), (117, .u64), (153, .u32)]
theorem ikTab1 : ikTab.map (fun p => Ybaz.prog.underlying p.1) = ikTab.map (fun p => some (.int p.2)) := by kernel_rfl
theorem ik {t : Nat} {k : IntKind} (h : look ikTab t = some k) : Ybaz.prog.underlying t = some (.int k) := of_maps ikTab1 _ (look_mem h)
def fldTab : List (Nat × Nat) := [(28000, 0), (28001, 2), (28002, 4), (28003, 6), (28004, 7), (28005, 9), (28006, 10), (39000, 0), (39001, 1), (39002, 2), (39005, 5), (46000, 0), (46001, 1), (51000, 0), (51001, 4), (51002, 8), (51004, 10), (51005, 12), (51006, 13), (56000, 0), (56001, 1), (69000, 0), (69001, 1), (69002, 2), (69003, 3), (69004, 4), (78000, 0), (78001, 1), (78002, 2), (90000, 0), (90001, 1), (90002, 2), (99000, 0), (99001, 5), (99002, 6), (99003, 7), (99004, 8), (105000, 0), (105001, 5), (105002, 6), (105003, 7), (105004, 8), (105005, 9), (126000, 0), (126001, 1), (126002, 2), (126003, 3), (126004, 4)]
theorem fldTab1 : fldTab.map (fun p => fldOff Ybaz.prog (p.1 / 1000) (p.1 % 1000)) = fldTab.map (fun p => some p.2) := by kernel_rfl
theorem fld {s f off : Nat} (h : cond (Nat.blt f 1000) (look fldTab (s * 1000 + f)) none = some off) : fldOff Ybaz.prog s f = some off := by
  cases hb : Nat.blt f 1000 with
  | false => rw [hb] at h; cases h
  | true =>
    rw [hb] at h
    have hlt : f < 1000 := by rw [Nat.blt_eq] at hb; exact hb
    have := of_maps fldTab1 _ (look_mem h)
    simp only at this
    rw [show (s * 1000 + f) / 1000 = s from by omega, show (s * 1000 + f) % 1000 = f from by omega] at this
    exact this
theorem mixed : Ybaz.prog.follows .mixedOrders = true := by kernel_rfl
theorem ent3 : Enters Ybaz.prog 3 := enters_of Ybaz.func3 (by kernel_rfl) rfl
theorem ent4 : Enters Ybaz.prog 4 := enters_of Ybaz.func4 (by kernel_rfl) rfl
theorem ent5 : Enters Ybaz.prog 5 := enters_of Ybaz.func5 (by kernel_rfl) rfl
theorem ent6 : Enters Ybaz.prog 6 := enters_of Ybaz.func6 (by kernel_rfl) rfl
theorem ent7 : Enters Ybaz.prog 7 := enters_of Ybaz.func7 (by kernel_rfl) rfl
theorem ent8 : Enters Ybaz.prog 8 := enters_of Ybaz.func8 (by kernel_rfl) rfl
theorem ent9 : Enters Ybaz.prog 9 := enters_of Ybaz.func9 (by kernel_rfl) rfl
theorem ent10 : Enters Ybaz.prog 10 := enters_of Ybaz.func10 (by kernel_rfl) rfl
theorem ent11 : Enters Ybaz.prog 11 := enters_of Ybaz.func11 (by kernel_rfl) rfl
theorem ent12 : Enters Ybaz.prog 12 := enters_of Ybaz.func12 (by kernel_rfl) rfl
theorem ent13 : Enters Ybaz.prog 13 := enters_of Ybaz.func13 (by kernel_rfl) rfl
theorem ent14 : Enters Ybaz.prog 14 := enters_of Ybaz.func14 (by kernel_rfl) rfl
theorem ent15 : Enters Ybaz.prog 15 := enters_of Ybaz.func15 (by kernel_rfl) rfl
theorem ent16 : Enters Ybaz.prog 16 := enters_of Ybaz.func16 (by kernel_rfl) rfl
theorem ent17 : Enters Ybaz.prog 17 := enters_of Ybaz.func17 (by kernel_rfl) rfl
theorem ent18 : Enters Ybaz.prog 18 := enters_of Ybaz.func18 (by kernel_rfl) rfl
theorem ent19 : Enters Ybaz.prog 19 := enters_of Ybaz.func19 (by kernel_rfl) rfl
theorem ent20 : Enters Ybaz.prog 20 := enters_of Ybaz.func20 (by kernel_rfl) rfl
theorem ent21 : Enters Ybaz.prog 21 := enters_of Ybaz.func21 (by kernel_rfl) rfl
theorem ent22 : Enters Ybaz.prog 22 := enters_of Ybaz.func22 (by kernel_rfl) rfl
theorem ent23 : Enters Ybaz.prog 23 := enters_of Ybaz.func23 (by kernel_rfl) rfl
theorem ent24 : Enters Ybaz.prog 24 := enters_of Ybaz.func24 (by kernel_rfl) rfl
theorem ent25 : Enters Ybaz.prog 25 := enters_of Ybaz.func25 (by kernel_rfl) rfl
theorem ent26 : Enters Ybaz.prog 26 := enters_of Ybaz.func26 (by kernel_rfl) rfl
theorem ent27 : Enters Ybaz.prog 27 := enters_of Ybaz.func27 (by kernel_rfl) rfl
theorem ent28 : Enters Ybaz.prog 28 := enters_of Ybaz.func28 (by kernel_rfl) rfl
theorem ent29 : Enters Ybaz.prog 29 := enters_of Ybaz.func29 (by kernel_rfl) rfl
theorem ent30 : Enters Ybaz.prog 30 := enters_of Ybaz.func30 (by kernel_rfl) rfl
theorem ent31 : Enters Ybaz.prog 31 := enters_of Ybaz.func31 (by kernel_rfl) rfl
theorem ent32 : Enters Ybaz.prog 32 := enters_of Ybaz.func32 (by kernel_rfl) rfl
theorem ent33 : Enters Ybaz.prog 33 := enters_of Ybaz.func33 (by kernel_rfl) rfl
theorem ent34 : Enters Ybaz.prog 34 := enters_of Ybaz.func34 (by kernel_rfl) rfl
theorem ent35 : Enters Ybaz.prog 35 := enters_of Ybaz.func35 (by kernel_rfl) rfl
theorem ent36 : Enters Ybaz.prog 36 := enters_of Ybaz.func36 (by kernel_rfl) rfl
theorem ent37 : Enters Ybaz.prog 37 := enters_of Ybaz.func37 (by kernel_rfl) rfl
theorem ent38 : Enters Ybaz.prog 38 := enters_of Ybaz.func38 (by kernel_rfl) rfl
theorem ent39 : Enters Ybaz.prog 39 := enters_of Ybaz.func39 (by kernel_rfl) rfl
theorem ent40 : Enters Ybaz.prog 40 := enters_of Ybaz.func40 (by kernel_rfl) rfl
theorem ent41 : Enters Ybaz.prog 41 := enters_of Ybaz.func41 (by kernel_rfl) rfl
theorem ent42 : Enters Ybaz.prog 42 := enters_of Ybaz.func42 (by kernel_rfl) rfl
theorem ent43 : Enters Ybaz.prog 43 := enters_of Ybaz.func43 (by kernel_rfl) rfl
theorem ent44 : Enters Ybaz.prog 44 := enters_of Ybaz.func44 (by kernel_rfl) rfl
theorem ent45 : Enters Ybaz.prog 45 := enters_of Ybaz.func45 (by kernel_rfl) rfl
theorem ent46 : Enters Ybaz.prog 46 := enters_of Ybaz.func46 (by kernel_rfl) rfl
theorem ent47 : Enters Ybaz.prog 47 := enters_of Ybaz.func47 (by kernel_rfl) rfl
theorem ent48 : Enters Ybaz.prog 48 := enters_of Ybaz.func48 (by kernel_rfl) rfl
theorem ent49 : Enters Ybaz.prog 49 := enters_of Ybaz.func49 (by kernel_rfl) rfl
theorem ent50 : Enters Ybaz.prog 50 := enters_of Ybaz.func50 (by kernel_rfl) rfl
theorem ent51 : Enters Ybaz.prog 51 := enters_of Ybaz.func51 (by kernel_rfl) rfl
theorem ent52 : Enters Ybaz.prog 52 := enters_of Ybaz.func52 (by kernel_rfl) rfl
theorem ent53 : Enters Ybaz.prog 53 := enters_of Ybaz.func53 (by kernel_rfl) rfl
theorem ent54 : Enters Ybaz.prog 54 := enters_of Ybaz.func54 (by kernel_rfl) rfl
theorem ent55 : Enters Ybaz.prog 55 := enters_of Ybaz.func55 (by kernel_rfl) rfl
theorem ent56 : Enters Ybaz.prog 56 := enters_of Ybaz.func56 (by kernel_rfl) rfl
theorem ent57 : Enters Ybaz.prog 57 := enters_of Ybaz.func57 (by kernel_rfl) rfl
theorem ent58 : Enters Ybaz.prog 58 := enters_of Ybaz.func58 (by kernel_rfl) rfl
theorem ent59 : Enters Ybaz.prog 59 := enters_of Ybaz.func59 (by kernel_rfl) rfl
theorem ent71 : Enters Ybaz.prog 71 := enters_of Ybaz.func71 (by kernel_rfl) rfl
theorem ent72 : Enters Ybaz.prog 72 := enters_of Ybaz.func72 (by kernel_rfl) rfl
theorem ent73 : Enters Ybaz.prog 73 := enters_of Ybaz.func73 (by kernel_rfl) rfl
theorem ent74 : Enters Ybaz.prog 74 := enters_of Ybaz.func74 (by kernel_rfl) rfl
theorem ent75 : Enters Ybaz.prog 75 := enters_of Ybaz.func75 (by kernel_rfl) rfl
theorem ent76 : Enters Ybaz.prog 76 := enters_of Ybaz.func76 (by kernel_rfl) rfl
theorem ent77 : Enters Ybaz.prog 77 := enters_of Ybaz.func77 (by kernel_rfl) rfl
theorem ent92 : Enters Ybaz.prog 92 := enters_of Ybaz.func92 (by kernel_rfl) rfl
theorem ent97 : Enters Ybaz.prog 97 := enters_of Ybaz.func97 (by kernel_rfl) rfl
theorem ent98 : Enters Ybaz.prog 98 := enters_of Ybaz.func98 (by kernel_rfl) rfl
theorem ent117 : Enters Ybaz.prog 117 := enters_of Ybaz.func117 (by kernel_rfl) rfl
theorem ent118 : Enters Ybaz.prog 118 := enters_of Ybaz.func118 (by kernel_rfl) rfl
theorem ent121 : Enters Ybaz.prog 121 := enters_of Ybaz.func121 (by kernel_rfl) rfl
theorem ent122 : Enters Ybaz.prog 122 := enters_of Ybaz.func122 (by kernel_rfl) rfl
end Sx
end Go.Proofs.YbulkcsqkGreat
