import Derived.Test.YbulkcsqkGreatDoorSxRI
namespace Go.Proofs.YbulkcsqkGreatDoor
namespace Sx
set_option maxRecDepth 10000
set_option maxHeartbeats 4000000
variable {w0 : World}

section
variable {h : Hp} {N br bs0 bo rb cb n n0 c0 cc co nc : Nat} {sc oc : Array Value} {fs fo : Nat × Nat} {a0 an : Option Addr}

def rA (an : Option Addr) (n nc rb cb : Nat) : Array Value := #[.int .i64 ((1 : Nat) : Int), .slice (some ⟨rb, 0, none⟩) n n, .slice (some ⟨cb, 0, none⟩) n n, .slice an n nc, .slice none 0 0, .slice none 0 0, .slice none 0 0, .slice none 0 0, .slice none 0 0, .nilFunc, .nilFunc, .nilFunc, .slice none 0 0, .slice none 0 0, .slice none 0 0, .slice none 0 0, .slice none 0 0, .slice none 0 0, .pointer none, .slice none 0 0, .int .i64 0, .slice none 0 0, .slice none 0 0, .int .i64 0, .int .i64 0, .slice none 0 0, .slice none 0 0, .slice none 0 0, .slice none 0 0, .slice none 0 0, .slice none 0 0, .slice none 0 0, .bool false, .int .i64 0, .slice none 0 0, .slice none 0 0, .slice none 0 0, .int .i64 (n : Int), .slice none 0 0, .slice none 0 0, .slice none 0 0, .slice none 0 0, .slice none 0 0, .bool false, .slice none 0 0, .slice none 0 0, .slice none 0 0, .slice none 0 0, .slice none 0 0, .slice none 0 0, .bool false, .slice none 0 0, .slice none 0 0, .slice none 0 0, .slice none 0 0, .slice none 0 0, .int .i64 0, .slice none 0 0, .int .i64 0, .slice none 0 0, .slice none 0 0, .int .i64 0, .slice none 0 0, .slice none 0 0, .slice none 0 0, .slice none 0 0, .int .i64 0, .slice none 0 0, .slice none 0 0, .slice none 0 0, .slice none 0 0, .slice none 0 0, .int .i64 0, .slice none 0 0, .int .i64 0, .slice none 0 0, .int .u8 0, .int .i64 0, .slice none 0 0, .pointer none, .bool false, .bool false, .slice none 0 0]
def rB (an : Option Addr) (n nc rb cb : Nat) : Array Value := #[.int .i64 ((1 : Nat) : Int), .slice (some ⟨rb, 0, none⟩) n n, .slice (some ⟨cb, 0, none⟩) n n, .slice an n nc, .slice none 0 0, .slice none 0 0, .slice none 0 0, .slice none 0 0, .slice none 0 0, .nilFunc, .nilFunc, .nilFunc, .slice none 0 0, .slice none 0 0, .slice none 0 0, .slice none 0 0, .slice none 0 0, .slice none 0 0, .pointer none, .slice none 0 0, .int .i64 0, .slice none 0 0, .slice none 0 0, .int .i64 0, .int .i64 0, .slice none 0 0, .slice none 0 0, .slice none 0 0, .slice none 0 0, .slice none 0 0, .slice none 0 0, .slice none 0 0, .bool true, .int .i64 0, .slice none 0 0, .slice none 0 0, .slice none 0 0, .int .i64 (n : Int), .slice none 0 0, .slice none 0 0, .slice none 0 0, .slice none 0 0, .slice none 0 0, .bool false, .slice none 0 0, .slice none 0 0, .slice none 0 0, .slice none 0 0, .slice none 0 0, .slice none 0 0, .bool false, .slice none 0 0, .slice none 0 0, .slice none 0 0, .slice none 0 0, .slice none 0 0, .int .i64 0, .slice none 0 0, .int .i64 0, .slice none 0 0, .slice none 0 0, .int .i64 0, .slice none 0 0, .slice none 0 0, .slice none 0 0, .slice none 0 0, .int .i64 0, .slice none 0 0, .slice none 0 0, .slice none 0 0, .slice none 0 0, .slice none 0 0, .int .i64 0, .slice none 0 0, .int .i64 0, .slice none 0 0, .int .u8 0, .int .i64 0, .slice none 0 0, .pointer none, .bool false, .bool false, .slice none 0 0]

/-- What start leaves behind. -/
def Started (h0 : Hp) (br rb cb n : Nat) (h : Hp) : Prop :=
  Ext3 br rb cb h0 h ∧ ∃ rc bpl bs bp pl, h br = some (.cells rc 70 (0, 0)) ∧ rc.size = 83 ∧ rc[39]? = some (.slice none 0 0) ∧ rc[51]? = some (.slice (some ⟨bpl, 0, none⟩) n n) ∧ rc[54]? = some (.slice (some ⟨bs, 0, none⟩) n n) ∧ rc[55]? = some (.slice (some ⟨bp, 0, none⟩) n n) ∧ rc[56]? = some (.int .i64 0) ∧ rc[57]? = some (.slice none 0 0) ∧
    h bpl = some (.cells pl 3 (0, 0)) ∧ (∀ i, i < n → pl[i]? = some (.int .i64 (i : Int))) ∧ h bs = some (.cells (Array.replicate n (.slice none 0 0)) 25 (0, 0)) ∧ h bp = some (.cells (Array.replicate n (.slice none 0 0)) 25 (0, 0)) ∧ bs ≠ bp ∧ h0 bs = none ∧ h0 bp = none

theorem start_ok (hr : h br = some (.cells (rA an n nc rb cb) 70 (0, 0))) (hs : h bs0 = some (.cells sc 25 fs)) (hsv : ∀ i, i < n → sc[i]? = some (.slice none 0 0)) (ho : h bo = some (.cells oc 3 fo)) (hov : ∀ i, i < n → oc[i]? = some (.int .i64 (i : Int))) (hos : oc.size = n)
    (hru : Us h rb n) (hcu : Us h cb n) (hne : rb ≠ cb) (hn : n ≤ 64) (hn0 : 0 < n) :
    CallsX Ybaz.prog w0 6 #[.pointer (some ⟨br, 0, none⟩), .agg #[.slice a0 n0 c0, .slice (some ⟨bs0, 0, none⟩) n cc, .slice none 0 0, .slice none 0 0, .slice none 0 0], .slice (some ⟨bo, 0, none⟩) n co] h N (fun v h' _ => v = .tuple #[] ∧ Started h br rb cb n h') := by
  refine calls_of Ybaz.func6 rfl Ybaz.ntmps6 (Nat.le_of_ble_eq_true rfl) ?_
  refine c_seq ?_
  refine c_region (by kernel_rfl) ?_
  refine st (ok_box (v := .agg _) rfl rfl (fun hN4 => ?_))
  refine o_nil ?_
  have hx1 : Ext h (hset h N (.cells #[.slice a0 n0 c0, .slice (some ⟨bs0, 0, none⟩) n cc, .slice none 0 0, .slice none 0 0, .slice none 0 0] 39 (0, 0))) := Ext.push hN4 _
  have g4 : (hset h N (.cells #[.slice a0 n0 c0, .slice (some ⟨bs0, 0, none⟩) n cc, .slice none 0 0, .slice none 0 0, .slice none 0 0] 39 (0, 0))) N = some (.cells #[.slice a0 n0 c0, .slice (some ⟨bs0, 0, none⟩) n cc, .slice none 0 0, .slice none 0 0, .slice none 0 0] 39 (0, 0)) := hset_same _ _ _
  have gr := hx1 _ _ hr
  refine n_then ?_
  refine c_seq ?_
  refine c_draw mixed [0, 0, 0, 0, 0, 0, 0, 0, 0, 0, 0, 0, 0, 0, 0, 0, 0, 0, 0, 0, 0, 0, 0, 2] 24 rfl [((0, 2), [((1, 2), [((2, 2), [((3, 2), [((4, 1), [((5, 2), [((6, 2), [((7, 2), [((8, 1), [((9, 2), [((10, 2), [((11, 2), [((12, 1), [((13, 2), [((14, 2), [((15, 2), [((16, 1), [((17, 2), [((18, 2), [((19, 2), [((20, 1), [((21, 2), [((22, 2), [((23, 0), ())])])])])])])])])])])])])])])])])])])])])])])])] (by kernel_rfl) (by kernel_rfl) ?_
  refine w_p rfl (fun _ _ => ok_move (v := .pointer _) rfl ⟨rfl, rfl, rfl⟩) ?_
  refine w_p rfl (fun _ _ => ok_move (v := .pointer _) rfl ⟨rfl, rfl, rfl⟩) ?_
  refine w_p rfl (fun _ _ => ok_nilCheck_ptr rfl ⟨rfl, rfl, rfl⟩) ?_
  refine w_p rfl (fun _ _ => ok_fieldAddr (fld rfl) rfl ⟨rfl, rfl, rfl⟩) ?_
  refine w_r rfl (fun _ _ hExt => ok_loadAgg (ty rfl) rfl (hExt _ _ gr) (Nat.le_of_ble_eq_true rfl) rfl ⟨rfl, rfl, rfl⟩) ?_
  refine w_p rfl (fun _ _ => ok_move (v := .pointer _) rfl ⟨rfl, rfl, rfl⟩) ?_
  refine w_p rfl (fun _ _ => ok_nilCheck_ptr rfl ⟨rfl, rfl, rfl⟩) ?_
  refine w_p rfl (fun _ _ => ok_fieldAddr (fld rfl) rfl ⟨rfl, rfl, rfl⟩) ?_
  refine w_r rfl (fun _ _ hExt => ok_loadAgg (ty rfl) rfl (hExt _ _ gr) (Nat.le_of_ble_eq_true rfl) rfl ⟨rfl, rfl, rfl⟩) ?_
  refine w_p rfl (fun _ _ => ok_move (v := .pointer _) rfl ⟨rfl, rfl, rfl⟩) ?_
  refine w_p rfl (fun _ _ => ok_nilCheck_ptr rfl ⟨rfl, rfl, rfl⟩) ?_
  refine w_p rfl (fun _ _ => ok_fieldAddr (fld rfl) rfl ⟨rfl, rfl, rfl⟩) ?_
  refine w_r rfl (fun _ _ hExt => ok_load (ty rfl) rfl (hExt _ _ gr) (by rfl) ⟨rfl, rfl, rfl⟩) ?_
  refine w_p rfl (fun _ _ => ok_move (v := .pointer _) rfl ⟨rfl, rfl, rfl⟩) ?_
  refine w_p rfl (fun _ _ => ok_nilCheck_ptr rfl ⟨rfl, rfl, rfl⟩) ?_
  refine w_p rfl (fun _ _ => ok_fieldAddr (fld rfl) rfl ⟨rfl, rfl, rfl⟩) ?_
  refine w_r rfl (fun _ _ hExt => ok_load (ty rfl) rfl (hExt _ _ gr) (by rfl) ⟨rfl, rfl, rfl⟩) ?_
  refine w_p rfl (fun _ _ => ok_move (v := .pointer _) rfl ⟨rfl, rfl, rfl⟩) ?_
  refine w_p rfl (fun _ _ => ok_nilCheck_ptr rfl ⟨rfl, rfl, rfl⟩) ?_
  refine w_p rfl (fun _ _ => ok_fieldAddr (fld rfl) rfl ⟨rfl, rfl, rfl⟩) ?_
  refine w_r rfl (fun _ _ hExt => ok_load (ty rfl) rfl (hExt _ _ gr) (by rfl) ⟨rfl, rfl, rfl⟩) ?_
  refine w_p rfl (fun _ _ => ok_build rfl (v := .agg (rB an n nc rb cb)) (fun _ => by kernel_rfl) ⟨rfl, rfl, rfl⟩) ?_
  refine w_p rfl (fun _ _ => ok_nilCheck_ptr rfl ⟨rfl, rfl, rfl⟩) ?_
  refine w_e0 rfl (ok_storeL (ty rfl) rfl (v := .agg _) rfl rfl rfl rfl gr (Nat.le_of_ble_eq_true rfl) ⟨trivial, ?_⟩)
  refine w_nil ?_
  refine n_then ?_
  refine c_seq ?_
  have hR : RI h br rb cb [(0, .int .i64 ((1 : Nat) : Int)), (1, .slice (some ⟨rb, 0, none⟩) n n), (2, .slice (some ⟨cb, 0, none⟩) n n), (5, .slice none 0 0), (37, .int .i64 (n : Int)), (39, .slice none 0 0), (56, .int .i64 0), (57, .slice none 0 0)] [(N, .cells #[.slice a0 n0 c0, .slice (some ⟨bs0, 0, none⟩) n cc, .slice none 0 0, .slice none 0 0, .slice none 0 0] 39 (0, 0)), (bs0, .cells sc 25 fs), (bo, .cells oc 3 fo)]
      (hset (hset h N (.cells #[.slice a0 n0 c0, .slice (some ⟨bs0, 0, none⟩) n cc, .slice none 0 0, .slice none 0 0, .slice none 0 0] 39 (0, 0))) br (.cells (rB an n nc rb cb) 70 (0, 0))) (rB an n nc rb cb) := by
    refine ⟨hset_same _ _ _, rfl, ⟨rfl, rfl, rfl, rfl, rfl, rfl, rfl, rfl, trivial⟩, ⟨?_, ?_, ?_, trivial⟩, ?_⟩
    · rw [hset_ne _ _ (ne_of_ty g4 gr rfl)]; exact g4
    · rw [hset_ne _ _ (ne_of_ty (hx1 _ _ hs) gr rfl)]; exact hx1 _ _ hs
    · rw [hset_ne _ _ (ne_of_ty (hx1 _ _ ho) gr rfl)]; exact hx1 _ _ ho
    · intro d o a b c e; rw [hset_ne _ _ a]; exact hx1 _ _ e
  have hru1 : Us (hset (hset h N (.cells #[.slice a0 n0 c0, .slice (some ⟨bs0, 0, none⟩) n cc, .slice none 0 0, .slice none 0 0, .slice none 0 0] 39 (0, 0))) br (.cells (rB an n nc rb cb) 70 (0, 0))) rb n := (hru.ext hx1).off (by obtain ⟨cs, h1, _⟩ := hru.ext hx1; exact ne_of_ty h1 gr rfl)
  have hcu1 : Us (hset (hset h N (.cells #[.slice a0 n0 c0, .slice (some ⟨bs0, 0, none⟩) n cc, .slice none 0 0, .slice none 0 0, .slice none 0 0] 39 (0, 0))) br (.cells (rB an n nc rb cb) 70 (0, 0))) cb n := (hcu.ext hx1).off (by obtain ⟨cs, h1, _⟩ := hcu.ext hx1; exact ne_of_ty h1 gr rfl)
  refine c_heap (fun h' _ => ∃ rc, RI h br rb cb [(0, .int .i64 ((1 : Nat) : Int)), (1, .slice (some ⟨rb, 0, none⟩) n n), (2, .slice (some ⟨cb, 0, none⟩) n n), (5, .slice none 0 0), (37, .int .i64 (n : Int)), (39, .slice none 0 0), (56, .int .i64 0), (57, .slice none 0 0)] [(N, .cells #[.slice a0 n0 c0, .slice (some ⟨bs0, 0, none⟩) n cc, .slice none 0 0, .slice none 0 0, .slice none 0 0] 39 (0, 0)), (bs0, .cells sc 25 fs), (bo, .cells oc 3 fo)] h' rc ∧ Us h' rb n ∧ Us h' cb n) ⟨_, hR, hru1, hcu1⟩ ?_
  clear hR hru1 hcu1 gr g4
  rintro h2 N2 ⟨rc, hR, hru, hcu⟩
  obtain ⟨q0, q1, q2, q5, q37, _⟩ := hR.f
  refine c_region (by kernel_rfl) ?_
  refine st_q (ok_move (v := .pointer _) rfl ⟨rfl, rfl, rfl⟩) ?_
  refine st_q (ok_move (v := .pointer _) rfl ⟨rfl, rfl, rfl⟩) ?_
  refine st_q (ok_nilCheck_ptr rfl ⟨rfl, rfl, rfl⟩) ?_
  refine st_q (ok_fieldAddr (fld rfl) rfl ⟨rfl, rfl, rfl⟩) ?_
  refine st (ok_call rfl ent13 (newHeld_ok (op := 0 + 3) hR.r q5) rfl ?_)
  rintro _ h3 N3 ⟨hx3, bb, rfl⟩
  refine st_q (ok_nilCheck_ptr rfl ⟨rfl, rfl, rfl⟩) ?_
  refine st_q (ok_fieldAddr (fld rfl) rfl ⟨rfl, rfl, rfl⟩) ?_
  refine st0 (ok_storeL (ty rfl) rfl (v := .agg _) rfl rfl rfl rfl (hx3 _ _ hR.r) (by rw [hR.sz]; decide) ?_)
  refine o_nil ?_
  refine n_then ?_
  refine c_seq ?_
  have hR := hR.ext hx3
  have hA := hR.layf 18 [.pointer (some ⟨br, 3, none⟩), .slice (some ⟨bb, 0, none⟩) 1 1, .int .i64 0, .slice none 0 0, .slice none 0 0, .int .i64 0, .int .i64 0, .slice none 0 0, .slice none 0 0, .slice none 0 0, .slice none 0 0, .slice none 0 0, .slice none 0 0, .slice none 0 0] (Nat.le_of_ble_eq_true rfl) rfl rfl
  have hru := (hru.ext hx3).off (o := .cells (lay rc 18 [.pointer (some ⟨br, 3, none⟩), .slice (some ⟨bb, 0, none⟩) 1 1, .int .i64 0, .slice none 0 0, .slice none 0 0, .int .i64 0, .int .i64 0, .slice none 0 0, .slice none 0 0, .slice none 0 0, .slice none 0 0, .slice none 0 0, .slice none 0 0, .slice none 0 0]) 70 (0, 0)) (by obtain ⟨cs, h1, _⟩ := hru.ext hx3; exact ne_of_ty h1 hR.r rfl)
  have hcu := (hcu.ext hx3).off (o := .cells (lay rc 18 [.pointer (some ⟨br, 3, none⟩), .slice (some ⟨bb, 0, none⟩) 1 1, .int .i64 0, .slice none 0 0, .slice none 0 0, .int .i64 0, .int .i64 0, .slice none 0 0, .slice none 0 0, .slice none 0 0, .slice none 0 0, .slice none 0 0, .slice none 0 0, .slice none 0 0]) 70 (0, 0)) (by obtain ⟨cs, h1, _⟩ := hcu.ext hx3; exact ne_of_ty h1 hR.r rfl)
  refine c_heap (fun h' _ => ∃ rc, RI h br rb cb _ _ h' rc ∧ Us h' rb n ∧ Us h' cb n) ⟨_, hA, hru, hcu⟩ ?_
  clear hR hru hcu hA q0 q1 q2 q5 q37
  rintro h4 N4 ⟨rc, hR, hru, hcu⟩
  obtain ⟨g4, gs, go, _⟩ := hR.has
  obtain ⟨q0, q1, q2, q5, q37, _⟩ := hR.f
  refine c_draw mixed [0, 0, 0, 0, 0, 2] 6 rfl [((0, 2), [((1, 2), [((2, 2), [((3, 1), [((4, 2), [((5, 0), ())])])])])])] (by kernel_rfl) (by kernel_rfl) ?_
  refine w_p rfl (fun _ _ => ok_move (v := .pointer _) rfl ⟨rfl, rfl, rfl⟩) ?_
  refine w_p rfl (fun _ _ => ok_nilCheck_ptr rfl ⟨rfl, rfl, rfl⟩) ?_
  refine w_p rfl (fun _ _ => ok_fieldAddr (fld rfl) rfl ⟨rfl, rfl, rfl⟩) ?_
  refine w_r rfl (fun _ _ hExt => ok_loadAgg (ty rfl) rfl (hExt _ _ g4) (Nat.le_of_ble_eq_true rfl) rfl ⟨rfl, rfl, rfl⟩) ?_
  refine w_p rfl (fun _ _ => ok_move (v := .slice _ _ _) rfl ⟨rfl, rfl, rfl⟩) ?_
  refine w_e rfl (ok_call rfl ent14 (fill_ok hR.r q0 q1 q2 gs hsv go hov hru hcu hne hn) rfl ?_)
  rintro _ h5 N5 ⟨rfl, hx5⟩
  refine ⟨trivial, ?_⟩
  refine w_nil ?_
  have hR := hR.fill hx5 hru hcu rfl
  clear hru hcu hx5 g4 gs go
  refine n_then ?_
  refine c_seq ?_
  refine c_region (by kernel_rfl) ?_
  refine st_q (ok_move (v := .pointer _) rfl ⟨rfl, rfl, rfl⟩) ?_
  refine st_q (ok_nilCheck_ptr rfl ⟨rfl, rfl, rfl⟩) ?_
  refine st_q (ok_fieldAddr (fld rfl) rfl ⟨rfl, rfl, rfl⟩) ?_
  refine st_q (ok_load (ty rfl) rfl hR.r q37 ⟨rfl, rfl, rfl⟩) ?_
  refine st_q (ok_assign (v := .int _ _) rfl ⟨rfl, rfl, rfl⟩) ?_
  refine o_nil ?_
  refine n_then ?_
  refine c_seq ?_
  refine c_region (by kernel_rfl) ?_
  refine st_q (ok_move (v := .pointer _) rfl ⟨rfl, rfl, rfl⟩) ?_
  refine st_q (ok_move (v := .int _ _) rfl ⟨rfl, rfl, rfl⟩) ?_
  refine st (ok_makeSlice (sl rfl) (ty rfl) rfl rfl (by omega) (by omega) (by omega) (by omega) (l' := n) (c' := n) (by omega) (by omega) (fun hN51 => ?_))
  refine st_q (ok_nilCheck_ptr rfl ⟨rfl, rfl, rfl⟩) ?_
  refine st_q (ok_fieldAddr (fld rfl) rfl ⟨rfl, rfl, rfl⟩) ?_
  refine st0 (ok_store (ty rfl) rfl (v := .slice _ _ _) rfl rfl (Ext.push hN51 _ _ _ hR.r) (by rw [hR.sz]; decide) ?_)
  refine o_nil ?_
  refine n_then ?_
  refine c_seq ?_
  refine c_seq ?_
  have hfr := hR.fresh (hN51 N5 (Nat.le_refl _))
  have hA := (hR.ext (Ext.push hN51 (.cells (madeCells #[.int .i64 0] (n * 1)) 3 (0, 0)))).setf 51 (.slice (some ⟨N5, 0, none⟩) n n) (by decide) rfl rfl
  refine c_heap (fun h' _ => ∃ rc, RI h br rb cb _ _ h' rc ∧ ∃ pl, h' N5 = some (.cells pl 3 (0, 0)) ∧ pl.size = n) ⟨_, hA, madeCells #[.int .i64 0] (n * 1), (hset_ne _ _ hfr.2.1).trans (hset_same _ _ _), by rw [madeCells_one]; simp⟩ ?_
  clear hA hR q0 q1 q2 q5 q37
  rintro h6 N6 ⟨rc, hR, pl, gp, gpn⟩
  refine c_region (by kernel_rfl) ?_
  refine st_q (ok_move (v := .slice _ _ _) rfl ⟨rfl, rfl, rfl⟩) ?_
  refine st_q (ok_len (sl rfl) rfl ⟨rfl, rfl, rfl⟩) ?_
  refine st_q (ok_move (v := .int _ _) rfl ⟨rfl, rfl, rfl⟩) ?_
  refine o_nil ?_
  refine n_then ?_
  refine c_block ?_
  refine c_loop (fun k E h' _ D => D = [] ∧ k ≤ n ∧ Fr E [(0, .pointer (some ⟨br, 0, none⟩)), (2, .slice (some ⟨bo, 0, none⟩) n co), (4, .pointer (some ⟨N, 0, none⟩)), (6, .int .i64 (n : Int)), (54, .slice (some ⟨bo, 0, none⟩) n co), (55, .int .i64 n), (56, .int .i64 ((n - k : Nat) : Int))] ∧ RI h br rb cb _ _ h' rc ∧ ∃ pl, h' N5 = some (.cells pl 3 (0, 0)) ∧ pl.size = n ∧ ∀ i, i < n - k → pl[i]? = some (.int .i64 (i : Int))) (k := n) ⟨rfl, Nat.le_refl _, ⟨rfl, rfl, rfl, rfl, rfl, rfl, by simp [upd], trivial⟩, hR, pl, gp, gpn, fun i hi => by omega⟩ ?_
  clear hR gp gpn pl
  rintro k E h7 N7 D ⟨rfl, hk, hE, hR, pl, gp, gpn, gpv⟩
  obtain ⟨E0, rfl⟩ := hE.ex
  obtain ⟨g4, gs, go, _⟩ := hR.has
  refine c_seq ?_
  refine c_region (by kernel_rfl) ?_
  refine st_q (ok_lss rfl rfl ⟨rfl, rfl, rfl⟩) ?_
  refine o_nil ?_
  refine n_then ?_
  refine c_seq ?_
  refine c_cond_prop rfl (fun hc => ?_) (fun hc => ?_)
  · skip
    refine c_skip ?_
    refine n_then ?_
    refine c_seq ?_
    refine c_block ?_
    refine c_seq ?_
    have hlt : n - k < n := by omega
    refine c_region (by kernel_rfl) ?_
    refine st_q (ok_move (v := .int _ _) rfl ⟨rfl, rfl, rfl⟩) ?_
    refine st_q (ok_indexAddr (sl rfl) (ty rfl) rfl rfl (by omega) (by omega) (off := n - k) (by omega) ⟨rfl, rfl, rfl⟩) ?_
    refine st_q (ok_load (ty rfl) rfl go (hov _ hlt) ⟨rfl, rfl, rfl⟩) ?_
    refine st_q (ok_assign (v := .int _ _) rfl ⟨rfl, rfl, rfl⟩) ?_
    refine st_q (ok_assign (v := .int _ _) rfl ⟨rfl, rfl, rfl⟩) ?_
    refine o_nil ?_
    refine n_then ?_
    refine c_region (by kernel_rfl) ?_
    refine st_q (ok_move (v := .pointer _) rfl ⟨rfl, rfl, rfl⟩) ?_
    refine st_q (ok_nilCheck_ptr rfl ⟨rfl, rfl, rfl⟩) ?_
    refine st_q (ok_fieldAddr (fld rfl) rfl ⟨rfl, rfl, rfl⟩) ?_
    refine st_q (ok_load (ty rfl) rfl hR.r hR.f.1 ⟨rfl, rfl, rfl⟩) ?_
    refine st_q (ok_move (v := .int _ _) rfl ⟨rfl, rfl, rfl⟩) ?_
    refine st_q (ok_move (v := .int _ _) rfl ⟨rfl, rfl, rfl⟩) ?_
    refine st_q (ok_indexAddr (sl rfl) (ty rfl) rfl rfl (by omega) (by omega) (off := n - k) (by omega) ⟨rfl, rfl, rfl⟩) ?_
    refine st0 (ok_store (ty rfl) rfl (v := .int _ _) rfl rfl gp (by omega) ?_)
    refine o_nil ?_
    refine n_block (n_then ?_)
    refine c_region (by kernel_rfl) ?_
    refine st_q (ok_add rfl rfl (by omega) (by omega) ⟨rfl, rfl, rfl⟩) ?_
    refine st_q (ok_move (v := .int _ _) rfl ⟨rfl, rfl, rfl⟩) ?_
    refine o_nil ?_
    refine n_then ⟨k - 1, by omega, rfl, by omega, ⟨rfl, rfl, rfl, rfl, rfl, rfl, ?_, trivial⟩, hR.other hfr.1 hfr.2.1 hfr.2.2, _, hset_same _ _ _, by simp [gpn], ?_⟩
    · show Value.int .i64 (((n - k : Nat) : Int) + 1) = _
      congr 1; omega
    · intro i hi
      by_cases e : i = n - k
      · subst e; exact setA_same _ _ (by omega)
      · rw [setA_ne _ _ (fun x => e x.symm)]; exact gpv i (by omega)
  · skip
    have hk0 : k = 0 := by omega
    subst hk0
    refine c_exit ?_
    refine x_then (x_then (x_block (n_then ?_)))
    refine c_seq ?_
    refine c_region (by kernel_rfl) ?_
    refine st_q (ok_move (v := .pointer _) rfl ⟨rfl, rfl, rfl⟩) ?_
    refine st_q (ok_move (v := .pointer _) rfl ⟨rfl, rfl, rfl⟩) ?_
    refine st_q (ok_nilCheck_ptr rfl ⟨rfl, rfl, rfl⟩) ?_
    refine st_q (ok_fieldAddr (fld rfl) rfl ⟨rfl, rfl, rfl⟩) ?_
    refine st_q (ok_load (ty rfl) rfl hR.r hR.f.1 ⟨rfl, rfl, rfl⟩) ?_
    refine st (ok_call rfl ent15 (clone_ok gp (by omega) hn0 (by omega) (ones_of gpv)) rfl ?_)
    rintro _ h8 N8 ⟨hx8, b8, c8, cs8, rfl, -⟩
    refine st_q (ok_nilCheck_ptr rfl ⟨rfl, rfl, rfl⟩) ?_
    refine st_q (ok_fieldAddr (fld rfl) rfl ⟨rfl, rfl, rfl⟩) ?_
    refine st0 (ok_store (ty rfl) rfl (v := .slice _ _ _) rfl rfl (hx8 _ _ hR.r) (by rw [hR.sz]; decide) ?_)
    refine o_nil ?_
    refine n_then ?_
    refine c_seq ?_
    have hA := ((hR.cons gp).ext hx8).setk 42 (.slice (some ⟨b8, 0, none⟩) n c8) (by decide) rfl rfl
    refine c_heap (fun h' _ => ∃ rc, RI h br rb cb _ _ h' rc) ⟨_, hA⟩ ?_
    clear hA hR gp g4 gs go
    rintro h9 N9 ⟨rc, hR⟩
    obtain ⟨gp, g4, gs, go, _⟩ := hR.has
    refine c_region (by kernel_rfl) ?_
    refine st_q (ok_move (v := .pointer _) rfl ⟨rfl, rfl, rfl⟩) ?_
    refine st_q (ok_move (v := .slice _ _ _) rfl ⟨rfl, rfl, rfl⟩) ?_
    refine st (ok_call rfl ent15 (clone_ok go (by omega) hn0 (by omega) (ones_of hov)) rfl ?_)
    rintro _ h10 N10 ⟨hx10, b10, c10, cs10, rfl, -⟩
    refine st_q (ok_nilCheck_ptr rfl ⟨rfl, rfl, rfl⟩) ?_
    refine st_q (ok_fieldAddr (fld rfl) rfl ⟨rfl, rfl, rfl⟩) ?_
    refine st0 (ok_store (ty rfl) rfl (v := .slice _ _ _) rfl rfl (hx10 _ _ hR.r) (by rw [hR.sz]; decide) ?_)
    refine o_nil ?_
    refine n_then ?_
    refine c_seq ?_
    have hA := (hR.ext hx10).setk 52 (.slice (some ⟨b10, 0, none⟩) n c10) (by decide) rfl rfl
    refine c_heap (fun h' _ => ∃ rc, RI h br rb cb _ _ h' rc) ⟨_, hA⟩ ?_
    clear hA hR gp g4 gs go
    rintro h11 N11 ⟨rc, hR⟩
    obtain ⟨gp, g4, gs, go, _⟩ := hR.has
    refine c_cut (fun E h' _ D => Fr E [(0, .pointer (some ⟨br, 0, none⟩)), (6, .int .i64 (n : Int))] ∧ D = [] ∧ h' N = some (.cells #[.slice a0 n0 c0, .slice (some ⟨bs0, 0, none⟩) n cc, .slice none 0 0, .slice none 0 0, .slice none 0 0] 39 (0, 0)) ∧ ∃ rc, RI h br rb cb [(0, .int .i64 ((1 : Nat) : Int)), (5, .slice none 0 0), (39, .slice none 0 0), (51, .slice (some ⟨N5, 0, none⟩) n n), (56, .int .i64 0), (57, .slice none 0 0)] [(N5, .cells pl 3 (0, 0))] h' rc) ?_ ?_
    · skip
      refine c_draw mixed [0, 0, 0, 0, 2, 0, 0, 2, 0, 0, 2] 11 rfl [((0, 2), [((1, 2), [((3, 1), [((2, 0), [((4, 0), [((5, 2), [((6, 2), [((7, 0), [((8, 2), [((9, 2), [((10, 0), ())])])])])])])]), ((4, 0), [((2, 1), [((5, 2), [((6, 2), [((7, 0), [((8, 2), [((9, 2), [((10, 0), ())])])])])])])])])])])] (by kernel_rfl) (by kernel_rfl) ?_
      refine w_p rfl (fun _ _ => ok_move (v := .pointer _) rfl ⟨rfl, rfl, rfl⟩) ?_
      refine w_p rfl (fun _ _ => ok_move (v := .pointer _) rfl ⟨rfl, rfl, rfl⟩) ?_
      refine w_r rfl (fun _ _ hExt => ok_loadAgg (ty rfl) rfl (hExt _ _ g4) (Nat.le_of_ble_eq_true rfl) rfl ⟨rfl, rfl, rfl⟩) ?_
      refine w_cons ?_ (w_cons ?_ (w_none))
      · skip
        refine w_e rfl (ok_loadAgg (ty rfl) rfl g4 (Nat.le_of_ble_eq_true rfl) rfl ⟨⟨rfl, rfl⟩, ?_⟩)
        refine w_e rfl (ok_call rfl ent16 (pred0_ok gs hsv (by omega)) rfl ?_)
        rintro _ h12 N12 ⟨hx12, bq, rfl, -⟩
        have hR := hR.ext hx12
        have g4 := hx12 _ _ g4
        refine ⟨trivial, ?_⟩
        refine w_p rfl (fun _ _ => ok_nilCheck_ptr rfl ⟨rfl, rfl, rfl⟩) ?_
        refine w_p rfl (fun _ _ => ok_fieldAddr (fld rfl) rfl ⟨rfl, rfl, rfl⟩) ?_
        refine w_e0 rfl (ok_storeL (ty rfl) rfl (v := .agg _) rfl rfl rfl rfl hR.r (by rw [hR.sz]; decide) ⟨trivial, ?_⟩)
        have hR := hR.layf 12 [.slice a0 n0 c0, .slice (some ⟨bs0, 0, none⟩) n cc, .slice none 0 0, .slice none 0 0, .slice none 0 0] (Nat.le_of_ble_eq_true rfl) rfl rfl
        refine w_p rfl (fun _ _ => ok_nilCheck_ptr rfl ⟨rfl, rfl, rfl⟩) ?_
        refine w_p rfl (fun _ _ => ok_fieldAddr (fld rfl) rfl ⟨rfl, rfl, rfl⟩) ?_
        refine w_e0 rfl (ok_store (ty rfl) rfl (v := .slice _ _ _) rfl rfl hR.r (by rw [hR.sz]; decide) ⟨trivial, ?_⟩)
        have hR := hR.setk 17 (.slice (some ⟨bq, 0, none⟩) n n) (by decide) rfl rfl
        refine w_nil ?_
        exact n_then ⟨⟨rfl, rfl, trivial⟩, rfl, hR.has.2.1, _, hR.re ⟨hR.f.2.1, hR.f.2.2.2.2.1, hR.f.2.2.2.2.2.2.1, hR.f.1, hR.f.2.2.2.2.2.2.2.1, hR.f.2.2.2.2.2.2.2.2.1, trivial⟩ ⟨hR.has.1, trivial⟩⟩
      · skip
        refine w_e rfl (ok_call rfl ent16 (pred0_ok gs hsv (by omega)) rfl ?_)
        rintro _ h12 N12 ⟨hx12, bq, rfl, -⟩
        have hR := hR.ext hx12
        have g4 := hx12 _ _ g4
        refine ⟨trivial, ?_⟩
        refine w_r rfl (fun _ _ hExt => ok_loadAgg (ty rfl) rfl (hExt _ _ g4) (Nat.le_of_ble_eq_true rfl) rfl ⟨rfl, rfl, rfl⟩) ?_
        refine w_p rfl (fun _ _ => ok_nilCheck_ptr rfl ⟨rfl, rfl, rfl⟩) ?_
        refine w_p rfl (fun _ _ => ok_fieldAddr (fld rfl) rfl ⟨rfl, rfl, rfl⟩) ?_
        refine w_e0 rfl (ok_storeL (ty rfl) rfl (v := .agg _) rfl rfl rfl rfl hR.r (by rw [hR.sz]; decide) ⟨trivial, ?_⟩)
        have hR := hR.layf 12 [.slice a0 n0 c0, .slice (some ⟨bs0, 0, none⟩) n cc, .slice none 0 0, .slice none 0 0, .slice none 0 0] (Nat.le_of_ble_eq_true rfl) rfl rfl
        refine w_p rfl (fun _ _ => ok_nilCheck_ptr rfl ⟨rfl, rfl, rfl⟩) ?_
        refine w_p rfl (fun _ _ => ok_fieldAddr (fld rfl) rfl ⟨rfl, rfl, rfl⟩) ?_
        refine w_e0 rfl (ok_store (ty rfl) rfl (v := .slice _ _ _) rfl rfl hR.r (by rw [hR.sz]; decide) ⟨trivial, ?_⟩)
        have hR := hR.setk 17 (.slice (some ⟨bq, 0, none⟩) n n) (by decide) rfl rfl
        refine w_nil ?_
        exact n_then ⟨⟨rfl, rfl, trivial⟩, rfl, hR.has.2.1, _, hR.re ⟨hR.f.2.1, hR.f.2.2.2.2.1, hR.f.2.2.2.2.2.2.1, hR.f.1, hR.f.2.2.2.2.2.2.2.1, hR.f.2.2.2.2.2.2.2.2.1, trivial⟩ ⟨hR.has.1, trivial⟩⟩
    clear hR gp g4 gs go
    rintro E h12 N12 D ⟨hE, rfl, g4, rc, hR⟩
    obtain ⟨E1, rfl⟩ := hE.ex
    refine n_then ?_
    refine c_seq ?_
    refine c_cut (fun E h' _ D => Fr E [(0, .pointer (some ⟨br, 0, none⟩)), (6, .int .i64 (n : Int))] ∧ D = [] ∧ ∃ rc bs bp, RI h br rb cb ((55, .slice (some ⟨bp, 0, none⟩) n n) :: (54, .slice (some ⟨bs, 0, none⟩) n n) :: [(0, .int .i64 ((1 : Nat) : Int)), (5, .slice none 0 0), (39, .slice none 0 0), (51, .slice (some ⟨N5, 0, none⟩) n n), (56, .int .i64 0), (57, .slice none 0 0)]) ((bp, .cells (madeCells #[.slice none 0 0] (n * 1)) 25 (0, 0)) :: (bs, .cells (madeCells #[.slice none 0 0] (n * 1)) 25 (0, 0)) :: [(N5, .cells pl 3 (0, 0))]) h' rc ∧ bs ≠ bp ∧ h bs = none ∧ h bp = none) ?_ ?_
    · skip
      refine c_draw mixed [0, 0, 0, 0, 1, 0, 1, 0, 1, 0, 0, 2, 0, 0, 2, 0, 0, 2] 18 rfl [((0, 2), [((1, 2), [((2, 2), [((3, 2), [((5, 2), [((7, 2), [((4, 0), [((9, 2), [((10, 2), [((6, 0), [((8, 0), [((11, 0), [((12, 2), [((13, 2), [((14, 0), [((15, 2), [((16, 2), [((17, 0), ())])])])])])])]), ((11, 0), [((12, 2), [((13, 2), [((8, 0), [((14, 0), [((15, 2), [((16, 2), [((17, 0), ())])])])]), ((14, 0), [((8, 0), [((15, 2), [((16, 2), [((17, 0), ())])])])])])])])]), ((8, 0), [((6, 0), [((11, 0), [((12, 2), [((13, 2), [((14, 0), [((15, 2), [((16, 2), [((17, 0), ())])])])])])])]), ((11, 0), [((6, 0), [((12, 2), [((13, 2), [((14, 0), [((15, 2), [((16, 2), [((17, 0), ())])])])])])])])]), ((11, 0), [((6, 0), [((12, 2), [((13, 2), [((8, 0), [((14, 0), [((15, 2), [((16, 2), [((17, 0), ())])])])]), ((14, 0), [((8, 0), [((15, 2), [((16, 2), [((17, 0), ())])])])])])])]), ((8, 0), [((6, 0), [((12, 2), [((13, 2), [((14, 0), [((15, 2), [((16, 2), [((17, 0), ())])])])])])])])])])])]), ((6, 0), [((4, 0), [((9, 2), [((10, 2), [((8, 0), [((11, 0), [((12, 2), [((13, 2), [((14, 0), [((15, 2), [((16, 2), [((17, 0), ())])])])])])])]), ((11, 0), [((12, 2), [((13, 2), [((8, 0), [((14, 0), [((15, 2), [((16, 2), [((17, 0), ())])])])]), ((14, 0), [((8, 0), [((15, 2), [((16, 2), [((17, 0), ())])])])])])])])])])]), ((8, 0), [((4, 0), [((9, 2), [((10, 2), [((11, 0), [((12, 2), [((13, 2), [((14, 0), [((15, 2), [((16, 2), [((17, 0), ())])])])])])])])])])])]), ((8, 0), [((4, 0), [((9, 2), [((10, 2), [((6, 0), [((11, 0), [((12, 2), [((13, 2), [((14, 0), [((15, 2), [((16, 2), [((17, 0), ())])])])])])])]), ((11, 0), [((6, 0), [((12, 2), [((13, 2), [((14, 0), [((15, 2), [((16, 2), [((17, 0), ())])])])])])])])])])]), ((6, 0), [((4, 0), [((9, 2), [((10, 2), [((11, 0), [((12, 2), [((13, 2), [((14, 0), [((15, 2), [((16, 2), [((17, 0), ())])])])])])])])])])])])])])])])])])] (by kernel_rfl) (by kernel_rfl) ?_
      refine w_p rfl (fun _ _ => ok_move (v := .pointer _) rfl ⟨rfl, rfl, rfl⟩) ?_
      refine w_p rfl (fun _ _ => ok_move (v := .pointer _) rfl ⟨rfl, rfl, rfl⟩) ?_
      refine w_p rfl (fun _ _ => ok_move (v := .pointer _) rfl ⟨rfl, rfl, rfl⟩) ?_
      refine w_p rfl (fun _ _ => ok_move (v := .int _ _) rfl ⟨rfl, rfl, rfl⟩) ?_
      refine w_p rfl (fun _ _ => ok_move (v := .int _ _) rfl ⟨rfl, rfl, rfl⟩) ?_
      refine w_p rfl (fun _ _ => ok_move (v := .int _ _) rfl ⟨rfl, rfl, rfl⟩) ?_
      refine w_cons ?_ (w_cons ?_ (w_cons ?_ (w_none)))
      · skip
        refine w_e rfl (ok_makeSlice (sl rfl) (ty rfl) rfl rfl (by omega) (by omega) (by omega) (by omega) (l' := n) (c' := n) (by omega) (by omega) (fun hN95 => ⟨.inr ⟨_, rfl, rfl⟩, ?_⟩))
        have g95 := (hR.push hN95 (.cells (madeCells #[.slice none 0 0] (n * 1)) 25 (0, 0))).has.1
        have hR := hR.ext (Ext.push hN95 (.cells (madeCells #[.slice none 0 0] (n * 1)) 25 (0, 0)))
        try have g97 := Ext.push hN95 (.cells (madeCells #[.slice none 0 0] (n * 1)) 25 (0, 0)) _ _ g97
        try have g99 := Ext.push hN95 (.cells (madeCells #[.slice none 0 0] (n * 1)) 25 (0, 0)) _ _ g99
        refine w_p rfl (fun _ _ => ok_nilCheck_ptr rfl ⟨rfl, rfl, rfl⟩) ?_
        refine w_p rfl (fun _ _ => ok_fieldAddr (fld rfl) rfl ⟨rfl, rfl, rfl⟩) ?_
        refine w_cons ?_ (w_cons ?_ (w_cons ?_ (w_none)))
        · skip
          refine w_e rfl (ok_makeSlice (sl rfl) (ty rfl) rfl rfl (by omega) (by omega) (by omega) (by omega) (l' := n) (c' := n) (by omega) (by omega) (fun hN97 => ⟨.inr ⟨_, rfl, rfl⟩, ?_⟩))
          have g97 := (hR.push hN97 (.cells (madeCells #[.slice none 0 0] (n * 1)) 25 (0, 0))).has.1
          have hR := hR.ext (Ext.push hN97 (.cells (madeCells #[.slice none 0 0] (n * 1)) 25 (0, 0)))
          try have g95 := Ext.push hN97 (.cells (madeCells #[.slice none 0 0] (n * 1)) 25 (0, 0)) _ _ g95
          try have g99 := Ext.push hN97 (.cells (madeCells #[.slice none 0 0] (n * 1)) 25 (0, 0)) _ _ g99
          refine w_cons ?_ (w_cons ?_ (w_none))
          · skip
            refine w_e rfl (ok_makeSlice (sl rfl) (ty rfl) rfl rfl (by omega) (by omega) (by omega) (by omega) (l' := n) (c' := n) (by omega) (by omega) (fun hN99 => ⟨.inr ⟨_, rfl, rfl⟩, ?_⟩))
            have g99 := (hR.push hN99 (.cells (madeCells #[.slice none 0 0] (n * 1)) 25 (0, 0))).has.1
            have hR := hR.ext (Ext.push hN99 (.cells (madeCells #[.slice none 0 0] (n * 1)) 25 (0, 0)))
            try have g95 := Ext.push hN99 (.cells (madeCells #[.slice none 0 0] (n * 1)) 25 (0, 0)) _ _ g95
            try have g97 := Ext.push hN99 (.cells (madeCells #[.slice none 0 0] (n * 1)) 25 (0, 0)) _ _ g97
            refine w_e0 rfl (ok_store (ty rfl) rfl (v := .slice _ _ _) rfl rfl hR.r (by rw [hR.sz]; decide) ⟨trivial, ?_⟩)
            try have g95 := hR.keep 54 (.slice (some ⟨N12, 0, none⟩) n n) g95
            try have g97 := hR.keep 54 (.slice (some ⟨N12, 0, none⟩) n n) g97
            have hR := hR.setf 54 (.slice (some ⟨N12, 0, none⟩) n n) (by decide) rfl rfl
            refine w_p rfl (fun _ _ => ok_nilCheck_ptr rfl ⟨rfl, rfl, rfl⟩) ?_
            refine w_p rfl (fun _ _ => ok_fieldAddr (fld rfl) rfl ⟨rfl, rfl, rfl⟩) ?_
            refine w_e0 rfl (ok_store (ty rfl) rfl (v := .slice _ _ _) rfl rfl hR.r (by rw [hR.sz]; decide) ⟨trivial, ?_⟩)
            try have g95 := hR.keep 55 (.slice (some ⟨N12 + 1, 0, none⟩) n n) g95
            try have g97 := hR.keep 55 (.slice (some ⟨N12 + 1, 0, none⟩) n n) g97
            have hR := hR.setf 55 (.slice (some ⟨N12 + 1, 0, none⟩) n n) (by decide) rfl rfl
            refine w_p rfl (fun _ _ => ok_nilCheck_ptr rfl ⟨rfl, rfl, rfl⟩) ?_
            refine w_p rfl (fun _ _ => ok_fieldAddr (fld rfl) rfl ⟨rfl, rfl, rfl⟩) ?_
            refine w_e0 rfl (ok_store (ty rfl) rfl (v := .slice _ _ _) rfl rfl hR.r (by rw [hR.sz]; decide) ⟨trivial, ?_⟩)
            try have g95 := hR.keep 41 (.slice (some ⟨N12 + 1 + 1, 0, none⟩) n n) g95
            try have g97 := hR.keep 41 (.slice (some ⟨N12 + 1 + 1, 0, none⟩) n n) g97
            have hR := hR.setk 41 (.slice (some ⟨N12 + 1 + 1, 0, none⟩) n n) (by decide) rfl rfl
            refine w_nil ?_
            exact n_then ⟨⟨rfl, rfl, trivial⟩, rfl, _, N12, N12 + 1, (hR.cons g95).cons g97, by omega, hN4 _ (by have hlt : N < N12 := (by first | exact lt_of_free hN95 g4 | exact lt_of_free hN97 g4 | exact lt_of_free hN99 g4); omega), hN4 _ (by have hlt : N < N12 := (by first | exact lt_of_free hN95 g4 | exact lt_of_free hN97 g4 | exact lt_of_free hN99 g4); omega)⟩
          · skip
            refine w_e0 rfl (ok_store (ty rfl) rfl (v := .slice _ _ _) rfl rfl hR.r (by rw [hR.sz]; decide) ⟨trivial, ?_⟩)
            try have g95 := hR.keep 54 (.slice (some ⟨N12, 0, none⟩) n n) g95
            try have g97 := hR.keep 54 (.slice (some ⟨N12, 0, none⟩) n n) g97
            have hR := hR.setf 54 (.slice (some ⟨N12, 0, none⟩) n n) (by decide) rfl rfl
            refine w_p rfl (fun _ _ => ok_nilCheck_ptr rfl ⟨rfl, rfl, rfl⟩) ?_
            refine w_p rfl (fun _ _ => ok_fieldAddr (fld rfl) rfl ⟨rfl, rfl, rfl⟩) ?_
            refine w_cons ?_ (w_cons ?_ (w_none))
            · skip
              refine w_e rfl (ok_makeSlice (sl rfl) (ty rfl) rfl rfl (by omega) (by omega) (by omega) (by omega) (l' := n) (c' := n) (by omega) (by omega) (fun hN99 => ⟨.inr ⟨_, rfl, rfl⟩, ?_⟩))
              have g99 := (hR.push hN99 (.cells (madeCells #[.slice none 0 0] (n * 1)) 25 (0, 0))).has.1
              have hR := hR.ext (Ext.push hN99 (.cells (madeCells #[.slice none 0 0] (n * 1)) 25 (0, 0)))
              try have g95 := Ext.push hN99 (.cells (madeCells #[.slice none 0 0] (n * 1)) 25 (0, 0)) _ _ g95
              try have g97 := Ext.push hN99 (.cells (madeCells #[.slice none 0 0] (n * 1)) 25 (0, 0)) _ _ g97
              refine w_e0 rfl (ok_store (ty rfl) rfl (v := .slice _ _ _) rfl rfl hR.r (by rw [hR.sz]; decide) ⟨trivial, ?_⟩)
              try have g95 := hR.keep 55 (.slice (some ⟨N12 + 1, 0, none⟩) n n) g95
              try have g97 := hR.keep 55 (.slice (some ⟨N12 + 1, 0, none⟩) n n) g97
              have hR := hR.setf 55 (.slice (some ⟨N12 + 1, 0, none⟩) n n) (by decide) rfl rfl
              refine w_p rfl (fun _ _ => ok_nilCheck_ptr rfl ⟨rfl, rfl, rfl⟩) ?_
              refine w_p rfl (fun _ _ => ok_fieldAddr (fld rfl) rfl ⟨rfl, rfl, rfl⟩) ?_
              refine w_e0 rfl (ok_store (ty rfl) rfl (v := .slice _ _ _) rfl rfl hR.r (by rw [hR.sz]; decide) ⟨trivial, ?_⟩)
              try have g95 := hR.keep 41 (.slice (some ⟨N12 + 1 + 1, 0, none⟩) n n) g95
              try have g97 := hR.keep 41 (.slice (some ⟨N12 + 1 + 1, 0, none⟩) n n) g97
              have hR := hR.setk 41 (.slice (some ⟨N12 + 1 + 1, 0, none⟩) n n) (by decide) rfl rfl
              refine w_nil ?_
              exact n_then ⟨⟨rfl, rfl, trivial⟩, rfl, _, N12, N12 + 1, (hR.cons g95).cons g97, by omega, hN4 _ (by have hlt : N < N12 := (by first | exact lt_of_free hN95 g4 | exact lt_of_free hN97 g4 | exact lt_of_free hN99 g4); omega), hN4 _ (by have hlt : N < N12 := (by first | exact lt_of_free hN95 g4 | exact lt_of_free hN97 g4 | exact lt_of_free hN99 g4); omega)⟩
            · skip
              refine w_e0 rfl (ok_store (ty rfl) rfl (v := .slice _ _ _) rfl rfl hR.r (by rw [hR.sz]; decide) ⟨trivial, ?_⟩)
              try have g95 := hR.keep 55 (.slice (some ⟨N12 + 1, 0, none⟩) n n) g95
              try have g97 := hR.keep 55 (.slice (some ⟨N12 + 1, 0, none⟩) n n) g97
              have hR := hR.setf 55 (.slice (some ⟨N12 + 1, 0, none⟩) n n) (by decide) rfl rfl
              refine w_e rfl (ok_makeSlice (sl rfl) (ty rfl) rfl rfl (by omega) (by omega) (by omega) (by omega) (l' := n) (c' := n) (by omega) (by omega) (fun hN99 => ⟨.inr ⟨_, rfl, rfl⟩, ?_⟩))
              have g99 := (hR.push hN99 (.cells (madeCells #[.slice none 0 0] (n * 1)) 25 (0, 0))).has.1
              have hR := hR.ext (Ext.push hN99 (.cells (madeCells #[.slice none 0 0] (n * 1)) 25 (0, 0)))
              try have g95 := Ext.push hN99 (.cells (madeCells #[.slice none 0 0] (n * 1)) 25 (0, 0)) _ _ g95
              try have g97 := Ext.push hN99 (.cells (madeCells #[.slice none 0 0] (n * 1)) 25 (0, 0)) _ _ g97
              refine w_p rfl (fun _ _ => ok_nilCheck_ptr rfl ⟨rfl, rfl, rfl⟩) ?_
              refine w_p rfl (fun _ _ => ok_fieldAddr (fld rfl) rfl ⟨rfl, rfl, rfl⟩) ?_
              refine w_e0 rfl (ok_store (ty rfl) rfl (v := .slice _ _ _) rfl rfl hR.r (by rw [hR.sz]; decide) ⟨trivial, ?_⟩)
              try have g95 := hR.keep 41 (.slice (some ⟨N12 + 1 + 1, 0, none⟩) n n) g95
              try have g97 := hR.keep 41 (.slice (some ⟨N12 + 1 + 1, 0, none⟩) n n) g97
              have hR := hR.setk 41 (.slice (some ⟨N12 + 1 + 1, 0, none⟩) n n) (by decide) rfl rfl
              refine w_nil ?_
              exact n_then ⟨⟨rfl, rfl, trivial⟩, rfl, _, N12, N12 + 1, (hR.cons g95).cons g97, by omega, hN4 _ (by have hlt : N < N12 := (by first | exact lt_of_free hN95 g4 | exact lt_of_free hN97 g4 | exact lt_of_free hN99 g4); omega), hN4 _ (by have hlt : N < N12 := (by first | exact lt_of_free hN95 g4 | exact lt_of_free hN97 g4 | exact lt_of_free hN99 g4); omega)⟩
        · skip
          refine w_e rfl (ok_makeSlice (sl rfl) (ty rfl) rfl rfl (by omega) (by omega) (by omega) (by omega) (l' := n) (c' := n) (by omega) (by omega) (fun hN99 => ⟨.inr ⟨_, rfl, rfl⟩, ?_⟩))
          have g99 := (hR.push hN99 (.cells (madeCells #[.slice none 0 0] (n * 1)) 25 (0, 0))).has.1
          have hR := hR.ext (Ext.push hN99 (.cells (madeCells #[.slice none 0 0] (n * 1)) 25 (0, 0)))
          try have g95 := Ext.push hN99 (.cells (madeCells #[.slice none 0 0] (n * 1)) 25 (0, 0)) _ _ g95
          try have g97 := Ext.push hN99 (.cells (madeCells #[.slice none 0 0] (n * 1)) 25 (0, 0)) _ _ g97
          refine w_cons ?_ (w_cons ?_ (w_none))
          · skip
            refine w_e rfl (ok_makeSlice (sl rfl) (ty rfl) rfl rfl (by omega) (by omega) (by omega) (by omega) (l' := n) (c' := n) (by omega) (by omega) (fun hN97 => ⟨.inr ⟨_, rfl, rfl⟩, ?_⟩))
            have g97 := (hR.push hN97 (.cells (madeCells #[.slice none 0 0] (n * 1)) 25 (0, 0))).has.1
            have hR := hR.ext (Ext.push hN97 (.cells (madeCells #[.slice none 0 0] (n * 1)) 25 (0, 0)))
            try have g95 := Ext.push hN97 (.cells (madeCells #[.slice none 0 0] (n * 1)) 25 (0, 0)) _ _ g95
            try have g99 := Ext.push hN97 (.cells (madeCells #[.slice none 0 0] (n * 1)) 25 (0, 0)) _ _ g99
            refine w_e0 rfl (ok_store (ty rfl) rfl (v := .slice _ _ _) rfl rfl hR.r (by rw [hR.sz]; decide) ⟨trivial, ?_⟩)
            try have g95 := hR.keep 54 (.slice (some ⟨N12, 0, none⟩) n n) g95
            try have g97 := hR.keep 54 (.slice (some ⟨N12, 0, none⟩) n n) g97
            have hR := hR.setf 54 (.slice (some ⟨N12, 0, none⟩) n n) (by decide) rfl rfl
            refine w_p rfl (fun _ _ => ok_nilCheck_ptr rfl ⟨rfl, rfl, rfl⟩) ?_
            refine w_p rfl (fun _ _ => ok_fieldAddr (fld rfl) rfl ⟨rfl, rfl, rfl⟩) ?_
            refine w_e0 rfl (ok_store (ty rfl) rfl (v := .slice _ _ _) rfl rfl hR.r (by rw [hR.sz]; decide) ⟨trivial, ?_⟩)
            try have g95 := hR.keep 55 (.slice (some ⟨N12 + 1 + 1, 0, none⟩) n n) g95
            try have g97 := hR.keep 55 (.slice (some ⟨N12 + 1 + 1, 0, none⟩) n n) g97
            have hR := hR.setf 55 (.slice (some ⟨N12 + 1 + 1, 0, none⟩) n n) (by decide) rfl rfl
            refine w_p rfl (fun _ _ => ok_nilCheck_ptr rfl ⟨rfl, rfl, rfl⟩) ?_
            refine w_p rfl (fun _ _ => ok_fieldAddr (fld rfl) rfl ⟨rfl, rfl, rfl⟩) ?_
            refine w_e0 rfl (ok_store (ty rfl) rfl (v := .slice _ _ _) rfl rfl hR.r (by rw [hR.sz]; decide) ⟨trivial, ?_⟩)
            try have g95 := hR.keep 41 (.slice (some ⟨N12 + 1, 0, none⟩) n n) g95
            try have g97 := hR.keep 41 (.slice (some ⟨N12 + 1, 0, none⟩) n n) g97
            have hR := hR.setk 41 (.slice (some ⟨N12 + 1, 0, none⟩) n n) (by decide) rfl rfl
            refine w_nil ?_
            exact n_then ⟨⟨rfl, rfl, trivial⟩, rfl, _, N12, N12 + 1 + 1, (hR.cons g95).cons g97, by omega, hN4 _ (by have hlt : N < N12 := (by first | exact lt_of_free hN95 g4 | exact lt_of_free hN97 g4 | exact lt_of_free hN99 g4); omega), hN4 _ (by have hlt : N < N12 := (by first | exact lt_of_free hN95 g4 | exact lt_of_free hN97 g4 | exact lt_of_free hN99 g4); omega)⟩
          · skip
            refine w_e0 rfl (ok_store (ty rfl) rfl (v := .slice _ _ _) rfl rfl hR.r (by rw [hR.sz]; decide) ⟨trivial, ?_⟩)
            try have g95 := hR.keep 54 (.slice (some ⟨N12, 0, none⟩) n n) g95
            try have g97 := hR.keep 54 (.slice (some ⟨N12, 0, none⟩) n n) g97
            have hR := hR.setf 54 (.slice (some ⟨N12, 0, none⟩) n n) (by decide) rfl rfl
            refine w_e rfl (ok_makeSlice (sl rfl) (ty rfl) rfl rfl (by omega) (by omega) (by omega) (by omega) (l' := n) (c' := n) (by omega) (by omega) (fun hN97 => ⟨.inr ⟨_, rfl, rfl⟩, ?_⟩))
            have g97 := (hR.push hN97 (.cells (madeCells #[.slice none 0 0] (n * 1)) 25 (0, 0))).has.1
            have hR := hR.ext (Ext.push hN97 (.cells (madeCells #[.slice none 0 0] (n * 1)) 25 (0, 0)))
            try have g95 := Ext.push hN97 (.cells (madeCells #[.slice none 0 0] (n * 1)) 25 (0, 0)) _ _ g95
            try have g99 := Ext.push hN97 (.cells (madeCells #[.slice none 0 0] (n * 1)) 25 (0, 0)) _ _ g99
            refine w_p rfl (fun _ _ => ok_nilCheck_ptr rfl ⟨rfl, rfl, rfl⟩) ?_
            refine w_p rfl (fun _ _ => ok_fieldAddr (fld rfl) rfl ⟨rfl, rfl, rfl⟩) ?_
            refine w_e0 rfl (ok_store (ty rfl) rfl (v := .slice _ _ _) rfl rfl hR.r (by rw [hR.sz]; decide) ⟨trivial, ?_⟩)
            try have g95 := hR.keep 55 (.slice (some ⟨N12 + 1 + 1, 0, none⟩) n n) g95
            try have g97 := hR.keep 55 (.slice (some ⟨N12 + 1 + 1, 0, none⟩) n n) g97
            have hR := hR.setf 55 (.slice (some ⟨N12 + 1 + 1, 0, none⟩) n n) (by decide) rfl rfl
            refine w_p rfl (fun _ _ => ok_nilCheck_ptr rfl ⟨rfl, rfl, rfl⟩) ?_
            refine w_p rfl (fun _ _ => ok_fieldAddr (fld rfl) rfl ⟨rfl, rfl, rfl⟩) ?_
            refine w_e0 rfl (ok_store (ty rfl) rfl (v := .slice _ _ _) rfl rfl hR.r (by rw [hR.sz]; decide) ⟨trivial, ?_⟩)
            try have g95 := hR.keep 41 (.slice (some ⟨N12 + 1, 0, none⟩) n n) g95
            try have g97 := hR.keep 41 (.slice (some ⟨N12 + 1, 0, none⟩) n n) g97
            have hR := hR.setk 41 (.slice (some ⟨N12 + 1, 0, none⟩) n n) (by decide) rfl rfl
            refine w_nil ?_
            exact n_then ⟨⟨rfl, rfl, trivial⟩, rfl, _, N12, N12 + 1 + 1, (hR.cons g95).cons g97, by omega, hN4 _ (by have hlt : N < N12 := (by first | exact lt_of_free hN95 g4 | exact lt_of_free hN97 g4 | exact lt_of_free hN99 g4); omega), hN4 _ (by have hlt : N < N12 := (by first | exact lt_of_free hN95 g4 | exact lt_of_free hN97 g4 | exact lt_of_free hN99 g4); omega)⟩
        · skip
          refine w_e0 rfl (ok_store (ty rfl) rfl (v := .slice _ _ _) rfl rfl hR.r (by rw [hR.sz]; decide) ⟨trivial, ?_⟩)
          try have g95 := hR.keep 54 (.slice (some ⟨N12, 0, none⟩) n n) g95
          try have g97 := hR.keep 54 (.slice (some ⟨N12, 0, none⟩) n n) g97
          have hR := hR.setf 54 (.slice (some ⟨N12, 0, none⟩) n n) (by decide) rfl rfl
          refine w_cons ?_ (w_cons ?_ (w_none))
          · skip
            refine w_e rfl (ok_makeSlice (sl rfl) (ty rfl) rfl rfl (by omega) (by omega) (by omega) (by omega) (l' := n) (c' := n) (by omega) (by omega) (fun hN97 => ⟨.inr ⟨_, rfl, rfl⟩, ?_⟩))
            have g97 := (hR.push hN97 (.cells (madeCells #[.slice none 0 0] (n * 1)) 25 (0, 0))).has.1
            have hR := hR.ext (Ext.push hN97 (.cells (madeCells #[.slice none 0 0] (n * 1)) 25 (0, 0)))
            try have g95 := Ext.push hN97 (.cells (madeCells #[.slice none 0 0] (n * 1)) 25 (0, 0)) _ _ g95
            try have g99 := Ext.push hN97 (.cells (madeCells #[.slice none 0 0] (n * 1)) 25 (0, 0)) _ _ g99
            refine w_p rfl (fun _ _ => ok_nilCheck_ptr rfl ⟨rfl, rfl, rfl⟩) ?_
            refine w_p rfl (fun _ _ => ok_fieldAddr (fld rfl) rfl ⟨rfl, rfl, rfl⟩) ?_
            refine w_cons ?_ (w_cons ?_ (w_none))
            · skip
              refine w_e rfl (ok_makeSlice (sl rfl) (ty rfl) rfl rfl (by omega) (by omega) (by omega) (by omega) (l' := n) (c' := n) (by omega) (by omega) (fun hN99 => ⟨.inr ⟨_, rfl, rfl⟩, ?_⟩))
              have g99 := (hR.push hN99 (.cells (madeCells #[.slice none 0 0] (n * 1)) 25 (0, 0))).has.1
              have hR := hR.ext (Ext.push hN99 (.cells (madeCells #[.slice none 0 0] (n * 1)) 25 (0, 0)))
              try have g95 := Ext.push hN99 (.cells (madeCells #[.slice none 0 0] (n * 1)) 25 (0, 0)) _ _ g95
              try have g97 := Ext.push hN99 (.cells (madeCells #[.slice none 0 0] (n * 1)) 25 (0, 0)) _ _ g97
              refine w_e0 rfl (ok_store (ty rfl) rfl (v := .slice _ _ _) rfl rfl hR.r (by rw [hR.sz]; decide) ⟨trivial, ?_⟩)
              try have g95 := hR.keep 55 (.slice (some ⟨N12 + 1, 0, none⟩) n n) g95
              try have g97 := hR.keep 55 (.slice (some ⟨N12 + 1, 0, none⟩) n n) g97
              have hR := hR.setf 55 (.slice (some ⟨N12 + 1, 0, none⟩) n n) (by decide) rfl rfl
              refine w_p rfl (fun _ _ => ok_nilCheck_ptr rfl ⟨rfl, rfl, rfl⟩) ?_
              refine w_p rfl (fun _ _ => ok_fieldAddr (fld rfl) rfl ⟨rfl, rfl, rfl⟩) ?_
              refine w_e0 rfl (ok_store (ty rfl) rfl (v := .slice _ _ _) rfl rfl hR.r (by rw [hR.sz]; decide) ⟨trivial, ?_⟩)
              try have g95 := hR.keep 41 (.slice (some ⟨N12 + 1 + 1, 0, none⟩) n n) g95
              try have g97 := hR.keep 41 (.slice (some ⟨N12 + 1 + 1, 0, none⟩) n n) g97
              have hR := hR.setk 41 (.slice (some ⟨N12 + 1 + 1, 0, none⟩) n n) (by decide) rfl rfl
              refine w_nil ?_
              exact n_then ⟨⟨rfl, rfl, trivial⟩, rfl, _, N12, N12 + 1, (hR.cons g95).cons g97, by omega, hN4 _ (by have hlt : N < N12 := (by first | exact lt_of_free hN95 g4 | exact lt_of_free hN97 g4 | exact lt_of_free hN99 g4); omega), hN4 _ (by have hlt : N < N12 := (by first | exact lt_of_free hN95 g4 | exact lt_of_free hN97 g4 | exact lt_of_free hN99 g4); omega)⟩
            · skip
              refine w_e0 rfl (ok_store (ty rfl) rfl (v := .slice _ _ _) rfl rfl hR.r (by rw [hR.sz]; decide) ⟨trivial, ?_⟩)
              try have g95 := hR.keep 55 (.slice (some ⟨N12 + 1, 0, none⟩) n n) g95
              try have g97 := hR.keep 55 (.slice (some ⟨N12 + 1, 0, none⟩) n n) g97
              have hR := hR.setf 55 (.slice (some ⟨N12 + 1, 0, none⟩) n n) (by decide) rfl rfl
              refine w_e rfl (ok_makeSlice (sl rfl) (ty rfl) rfl rfl (by omega) (by omega) (by omega) (by omega) (l' := n) (c' := n) (by omega) (by omega) (fun hN99 => ⟨.inr ⟨_, rfl, rfl⟩, ?_⟩))
              have g99 := (hR.push hN99 (.cells (madeCells #[.slice none 0 0] (n * 1)) 25 (0, 0))).has.1
              have hR := hR.ext (Ext.push hN99 (.cells (madeCells #[.slice none 0 0] (n * 1)) 25 (0, 0)))
              try have g95 := Ext.push hN99 (.cells (madeCells #[.slice none 0 0] (n * 1)) 25 (0, 0)) _ _ g95
              try have g97 := Ext.push hN99 (.cells (madeCells #[.slice none 0 0] (n * 1)) 25 (0, 0)) _ _ g97
              refine w_p rfl (fun _ _ => ok_nilCheck_ptr rfl ⟨rfl, rfl, rfl⟩) ?_
              refine w_p rfl (fun _ _ => ok_fieldAddr (fld rfl) rfl ⟨rfl, rfl, rfl⟩) ?_
              refine w_e0 rfl (ok_store (ty rfl) rfl (v := .slice _ _ _) rfl rfl hR.r (by rw [hR.sz]; decide) ⟨trivial, ?_⟩)
              try have g95 := hR.keep 41 (.slice (some ⟨N12 + 1 + 1, 0, none⟩) n n) g95
              try have g97 := hR.keep 41 (.slice (some ⟨N12 + 1 + 1, 0, none⟩) n n) g97
              have hR := hR.setk 41 (.slice (some ⟨N12 + 1 + 1, 0, none⟩) n n) (by decide) rfl rfl
              refine w_nil ?_
              exact n_then ⟨⟨rfl, rfl, trivial⟩, rfl, _, N12, N12 + 1, (hR.cons g95).cons g97, by omega, hN4 _ (by have hlt : N < N12 := (by first | exact lt_of_free hN95 g4 | exact lt_of_free hN97 g4 | exact lt_of_free hN99 g4); omega), hN4 _ (by have hlt : N < N12 := (by first | exact lt_of_free hN95 g4 | exact lt_of_free hN97 g4 | exact lt_of_free hN99 g4); omega)⟩
          · skip
            refine w_e rfl (ok_makeSlice (sl rfl) (ty rfl) rfl rfl (by omega) (by omega) (by omega) (by omega) (l' := n) (c' := n) (by omega) (by omega) (fun hN99 => ⟨.inr ⟨_, rfl, rfl⟩, ?_⟩))
            have g99 := (hR.push hN99 (.cells (madeCells #[.slice none 0 0] (n * 1)) 25 (0, 0))).has.1
            have hR := hR.ext (Ext.push hN99 (.cells (madeCells #[.slice none 0 0] (n * 1)) 25 (0, 0)))
            try have g95 := Ext.push hN99 (.cells (madeCells #[.slice none 0 0] (n * 1)) 25 (0, 0)) _ _ g95
            try have g97 := Ext.push hN99 (.cells (madeCells #[.slice none 0 0] (n * 1)) 25 (0, 0)) _ _ g97
            refine w_e rfl (ok_makeSlice (sl rfl) (ty rfl) rfl rfl (by omega) (by omega) (by omega) (by omega) (l' := n) (c' := n) (by omega) (by omega) (fun hN97 => ⟨.inr ⟨_, rfl, rfl⟩, ?_⟩))
            have g97 := (hR.push hN97 (.cells (madeCells #[.slice none 0 0] (n * 1)) 25 (0, 0))).has.1
            have hR := hR.ext (Ext.push hN97 (.cells (madeCells #[.slice none 0 0] (n * 1)) 25 (0, 0)))
            try have g95 := Ext.push hN97 (.cells (madeCells #[.slice none 0 0] (n * 1)) 25 (0, 0)) _ _ g95
            try have g99 := Ext.push hN97 (.cells (madeCells #[.slice none 0 0] (n * 1)) 25 (0, 0)) _ _ g99
            refine w_p rfl (fun _ _ => ok_nilCheck_ptr rfl ⟨rfl, rfl, rfl⟩) ?_
            refine w_p rfl (fun _ _ => ok_fieldAddr (fld rfl) rfl ⟨rfl, rfl, rfl⟩) ?_
            refine w_e0 rfl (ok_store (ty rfl) rfl (v := .slice _ _ _) rfl rfl hR.r (by rw [hR.sz]; decide) ⟨trivial, ?_⟩)
            try have g95 := hR.keep 55 (.slice (some ⟨N12 + 1 + 1, 0, none⟩) n n) g95
            try have g97 := hR.keep 55 (.slice (some ⟨N12 + 1 + 1, 0, none⟩) n n) g97
            have hR := hR.setf 55 (.slice (some ⟨N12 + 1 + 1, 0, none⟩) n n) (by decide) rfl rfl
            refine w_p rfl (fun _ _ => ok_nilCheck_ptr rfl ⟨rfl, rfl, rfl⟩) ?_
            refine w_p rfl (fun _ _ => ok_fieldAddr (fld rfl) rfl ⟨rfl, rfl, rfl⟩) ?_
            refine w_e0 rfl (ok_store (ty rfl) rfl (v := .slice _ _ _) rfl rfl hR.r (by rw [hR.sz]; decide) ⟨trivial, ?_⟩)
            try have g95 := hR.keep 41 (.slice (some ⟨N12 + 1, 0, none⟩) n n) g95
            try have g97 := hR.keep 41 (.slice (some ⟨N12 + 1, 0, none⟩) n n) g97
            have hR := hR.setk 41 (.slice (some ⟨N12 + 1, 0, none⟩) n n) (by decide) rfl rfl
            refine w_nil ?_
            exact n_then ⟨⟨rfl, rfl, trivial⟩, rfl, _, N12, N12 + 1 + 1, (hR.cons g95).cons g97, by omega, hN4 _ (by have hlt : N < N12 := (by first | exact lt_of_free hN95 g4 | exact lt_of_free hN97 g4 | exact lt_of_free hN99 g4); omega), hN4 _ (by have hlt : N < N12 := (by first | exact lt_of_free hN95 g4 | exact lt_of_free hN97 g4 | exact lt_of_free hN99 g4); omega)⟩
      · skip
        refine w_e rfl (ok_makeSlice (sl rfl) (ty rfl) rfl rfl (by omega) (by omega) (by omega) (by omega) (l' := n) (c' := n) (by omega) (by omega) (fun hN97 => ⟨.inr ⟨_, rfl, rfl⟩, ?_⟩))
        have g97 := (hR.push hN97 (.cells (madeCells #[.slice none 0 0] (n * 1)) 25 (0, 0))).has.1
        have hR := hR.ext (Ext.push hN97 (.cells (madeCells #[.slice none 0 0] (n * 1)) 25 (0, 0)))
        try have g95 := Ext.push hN97 (.cells (madeCells #[.slice none 0 0] (n * 1)) 25 (0, 0)) _ _ g95
        try have g99 := Ext.push hN97 (.cells (madeCells #[.slice none 0 0] (n * 1)) 25 (0, 0)) _ _ g99
        refine w_cons ?_ (w_cons ?_ (w_none))
        · skip
          refine w_e rfl (ok_makeSlice (sl rfl) (ty rfl) rfl rfl (by omega) (by omega) (by omega) (by omega) (l' := n) (c' := n) (by omega) (by omega) (fun hN95 => ⟨.inr ⟨_, rfl, rfl⟩, ?_⟩))
          have g95 := (hR.push hN95 (.cells (madeCells #[.slice none 0 0] (n * 1)) 25 (0, 0))).has.1
          have hR := hR.ext (Ext.push hN95 (.cells (madeCells #[.slice none 0 0] (n * 1)) 25 (0, 0)))
          try have g97 := Ext.push hN95 (.cells (madeCells #[.slice none 0 0] (n * 1)) 25 (0, 0)) _ _ g97
          try have g99 := Ext.push hN95 (.cells (madeCells #[.slice none 0 0] (n * 1)) 25 (0, 0)) _ _ g99
          refine w_p rfl (fun _ _ => ok_nilCheck_ptr rfl ⟨rfl, rfl, rfl⟩) ?_
          refine w_p rfl (fun _ _ => ok_fieldAddr (fld rfl) rfl ⟨rfl, rfl, rfl⟩) ?_
          refine w_cons ?_ (w_cons ?_ (w_none))
          · skip
            refine w_e rfl (ok_makeSlice (sl rfl) (ty rfl) rfl rfl (by omega) (by omega) (by omega) (by omega) (l' := n) (c' := n) (by omega) (by omega) (fun hN99 => ⟨.inr ⟨_, rfl, rfl⟩, ?_⟩))
            have g99 := (hR.push hN99 (.cells (madeCells #[.slice none 0 0] (n * 1)) 25 (0, 0))).has.1
            have hR := hR.ext (Ext.push hN99 (.cells (madeCells #[.slice none 0 0] (n * 1)) 25 (0, 0)))
            try have g95 := Ext.push hN99 (.cells (madeCells #[.slice none 0 0] (n * 1)) 25 (0, 0)) _ _ g95
            try have g97 := Ext.push hN99 (.cells (madeCells #[.slice none 0 0] (n * 1)) 25 (0, 0)) _ _ g97
            refine w_e0 rfl (ok_store (ty rfl) rfl (v := .slice _ _ _) rfl rfl hR.r (by rw [hR.sz]; decide) ⟨trivial, ?_⟩)
            try have g95 := hR.keep 54 (.slice (some ⟨N12 + 1, 0, none⟩) n n) g95
            try have g97 := hR.keep 54 (.slice (some ⟨N12 + 1, 0, none⟩) n n) g97
            have hR := hR.setf 54 (.slice (some ⟨N12 + 1, 0, none⟩) n n) (by decide) rfl rfl
            refine w_p rfl (fun _ _ => ok_nilCheck_ptr rfl ⟨rfl, rfl, rfl⟩) ?_
            refine w_p rfl (fun _ _ => ok_fieldAddr (fld rfl) rfl ⟨rfl, rfl, rfl⟩) ?_
            refine w_e0 rfl (ok_store (ty rfl) rfl (v := .slice _ _ _) rfl rfl hR.r (by rw [hR.sz]; decide) ⟨trivial, ?_⟩)
            try have g95 := hR.keep 55 (.slice (some ⟨N12, 0, none⟩) n n) g95
            try have g97 := hR.keep 55 (.slice (some ⟨N12, 0, none⟩) n n) g97
            have hR := hR.setf 55 (.slice (some ⟨N12, 0, none⟩) n n) (by decide) rfl rfl
            refine w_p rfl (fun _ _ => ok_nilCheck_ptr rfl ⟨rfl, rfl, rfl⟩) ?_
            refine w_p rfl (fun _ _ => ok_fieldAddr (fld rfl) rfl ⟨rfl, rfl, rfl⟩) ?_
            refine w_e0 rfl (ok_store (ty rfl) rfl (v := .slice _ _ _) rfl rfl hR.r (by rw [hR.sz]; decide) ⟨trivial, ?_⟩)
            try have g95 := hR.keep 41 (.slice (some ⟨N12 + 1 + 1, 0, none⟩) n n) g95
            try have g97 := hR.keep 41 (.slice (some ⟨N12 + 1 + 1, 0, none⟩) n n) g97
            have hR := hR.setk 41 (.slice (some ⟨N12 + 1 + 1, 0, none⟩) n n) (by decide) rfl rfl
            refine w_nil ?_
            exact n_then ⟨⟨rfl, rfl, trivial⟩, rfl, _, N12 + 1, N12, (hR.cons g95).cons g97, by omega, hN4 _ (by have hlt : N < N12 := (by first | exact lt_of_free hN95 g4 | exact lt_of_free hN97 g4 | exact lt_of_free hN99 g4); omega), hN4 _ (by have hlt : N < N12 := (by first | exact lt_of_free hN95 g4 | exact lt_of_free hN97 g4 | exact lt_of_free hN99 g4); omega)⟩
          · skip
            refine w_e0 rfl (ok_store (ty rfl) rfl (v := .slice _ _ _) rfl rfl hR.r (by rw [hR.sz]; decide) ⟨trivial, ?_⟩)
            try have g95 := hR.keep 54 (.slice (some ⟨N12 + 1, 0, none⟩) n n) g95
            try have g97 := hR.keep 54 (.slice (some ⟨N12 + 1, 0, none⟩) n n) g97
            have hR := hR.setf 54 (.slice (some ⟨N12 + 1, 0, none⟩) n n) (by decide) rfl rfl
            refine w_p rfl (fun _ _ => ok_nilCheck_ptr rfl ⟨rfl, rfl, rfl⟩) ?_
            refine w_p rfl (fun _ _ => ok_fieldAddr (fld rfl) rfl ⟨rfl, rfl, rfl⟩) ?_
            refine w_cons ?_ (w_cons ?_ (w_none))
            · skip
              refine w_e rfl (ok_makeSlice (sl rfl) (ty rfl) rfl rfl (by omega) (by omega) (by omega) (by omega) (l' := n) (c' := n) (by omega) (by omega) (fun hN99 => ⟨.inr ⟨_, rfl, rfl⟩, ?_⟩))
              have g99 := (hR.push hN99 (.cells (madeCells #[.slice none 0 0] (n * 1)) 25 (0, 0))).has.1
              have hR := hR.ext (Ext.push hN99 (.cells (madeCells #[.slice none 0 0] (n * 1)) 25 (0, 0)))
              try have g95 := Ext.push hN99 (.cells (madeCells #[.slice none 0 0] (n * 1)) 25 (0, 0)) _ _ g95
              try have g97 := Ext.push hN99 (.cells (madeCells #[.slice none 0 0] (n * 1)) 25 (0, 0)) _ _ g97
              refine w_e0 rfl (ok_store (ty rfl) rfl (v := .slice _ _ _) rfl rfl hR.r (by rw [hR.sz]; decide) ⟨trivial, ?_⟩)
              try have g95 := hR.keep 55 (.slice (some ⟨N12, 0, none⟩) n n) g95
              try have g97 := hR.keep 55 (.slice (some ⟨N12, 0, none⟩) n n) g97
              have hR := hR.setf 55 (.slice (some ⟨N12, 0, none⟩) n n) (by decide) rfl rfl
              refine w_p rfl (fun _ _ => ok_nilCheck_ptr rfl ⟨rfl, rfl, rfl⟩) ?_
              refine w_p rfl (fun _ _ => ok_fieldAddr (fld rfl) rfl ⟨rfl, rfl, rfl⟩) ?_
              refine w_e0 rfl (ok_store (ty rfl) rfl (v := .slice _ _ _) rfl rfl hR.r (by rw [hR.sz]; decide) ⟨trivial, ?_⟩)
              try have g95 := hR.keep 41 (.slice (some ⟨N12 + 1 + 1, 0, none⟩) n n) g95
              try have g97 := hR.keep 41 (.slice (some ⟨N12 + 1 + 1, 0, none⟩) n n) g97
              have hR := hR.setk 41 (.slice (some ⟨N12 + 1 + 1, 0, none⟩) n n) (by decide) rfl rfl
              refine w_nil ?_
              exact n_then ⟨⟨rfl, rfl, trivial⟩, rfl, _, N12 + 1, N12, (hR.cons g95).cons g97, by omega, hN4 _ (by have hlt : N < N12 := (by first | exact lt_of_free hN95 g4 | exact lt_of_free hN97 g4 | exact lt_of_free hN99 g4); omega), hN4 _ (by have hlt : N < N12 := (by first | exact lt_of_free hN95 g4 | exact lt_of_free hN97 g4 | exact lt_of_free hN99 g4); omega)⟩
            · skip
              refine w_e0 rfl (ok_store (ty rfl) rfl (v := .slice _ _ _) rfl rfl hR.r (by rw [hR.sz]; decide) ⟨trivial, ?_⟩)
              try have g95 := hR.keep 55 (.slice (some ⟨N12, 0, none⟩) n n) g95
              try have g97 := hR.keep 55 (.slice (some ⟨N12, 0, none⟩) n n) g97
              have hR := hR.setf 55 (.slice (some ⟨N12, 0, none⟩) n n) (by decide) rfl rfl
              refine w_e rfl (ok_makeSlice (sl rfl) (ty rfl) rfl rfl (by omega) (by omega) (by omega) (by omega) (l' := n) (c' := n) (by omega) (by omega) (fun hN99 => ⟨.inr ⟨_, rfl, rfl⟩, ?_⟩))
              have g99 := (hR.push hN99 (.cells (madeCells #[.slice none 0 0] (n * 1)) 25 (0, 0))).has.1
              have hR := hR.ext (Ext.push hN99 (.cells (madeCells #[.slice none 0 0] (n * 1)) 25 (0, 0)))
              try have g95 := Ext.push hN99 (.cells (madeCells #[.slice none 0 0] (n * 1)) 25 (0, 0)) _ _ g95
              try have g97 := Ext.push hN99 (.cells (madeCells #[.slice none 0 0] (n * 1)) 25 (0, 0)) _ _ g97
              refine w_p rfl (fun _ _ => ok_nilCheck_ptr rfl ⟨rfl, rfl, rfl⟩) ?_
              refine w_p rfl (fun _ _ => ok_fieldAddr (fld rfl) rfl ⟨rfl, rfl, rfl⟩) ?_
              refine w_e0 rfl (ok_store (ty rfl) rfl (v := .slice _ _ _) rfl rfl hR.r (by rw [hR.sz]; decide) ⟨trivial, ?_⟩)
              try have g95 := hR.keep 41 (.slice (some ⟨N12 + 1 + 1, 0, none⟩) n n) g95
              try have g97 := hR.keep 41 (.slice (some ⟨N12 + 1 + 1, 0, none⟩) n n) g97
              have hR := hR.setk 41 (.slice (some ⟨N12 + 1 + 1, 0, none⟩) n n) (by decide) rfl rfl
              refine w_nil ?_
              exact n_then ⟨⟨rfl, rfl, trivial⟩, rfl, _, N12 + 1, N12, (hR.cons g95).cons g97, by omega, hN4 _ (by have hlt : N < N12 := (by first | exact lt_of_free hN95 g4 | exact lt_of_free hN97 g4 | exact lt_of_free hN99 g4); omega), hN4 _ (by have hlt : N < N12 := (by first | exact lt_of_free hN95 g4 | exact lt_of_free hN97 g4 | exact lt_of_free hN99 g4); omega)⟩
        · skip
          refine w_e rfl (ok_makeSlice (sl rfl) (ty rfl) rfl rfl (by omega) (by omega) (by omega) (by omega) (l' := n) (c' := n) (by omega) (by omega) (fun hN99 => ⟨.inr ⟨_, rfl, rfl⟩, ?_⟩))
          have g99 := (hR.push hN99 (.cells (madeCells #[.slice none 0 0] (n * 1)) 25 (0, 0))).has.1
          have hR := hR.ext (Ext.push hN99 (.cells (madeCells #[.slice none 0 0] (n * 1)) 25 (0, 0)))
          try have g95 := Ext.push hN99 (.cells (madeCells #[.slice none 0 0] (n * 1)) 25 (0, 0)) _ _ g95
          try have g97 := Ext.push hN99 (.cells (madeCells #[.slice none 0 0] (n * 1)) 25 (0, 0)) _ _ g97
          refine w_e rfl (ok_makeSlice (sl rfl) (ty rfl) rfl rfl (by omega) (by omega) (by omega) (by omega) (l' := n) (c' := n) (by omega) (by omega) (fun hN95 => ⟨.inr ⟨_, rfl, rfl⟩, ?_⟩))
          have g95 := (hR.push hN95 (.cells (madeCells #[.slice none 0 0] (n * 1)) 25 (0, 0))).has.1
          have hR := hR.ext (Ext.push hN95 (.cells (madeCells #[.slice none 0 0] (n * 1)) 25 (0, 0)))
          try have g97 := Ext.push hN95 (.cells (madeCells #[.slice none 0 0] (n * 1)) 25 (0, 0)) _ _ g97
          try have g99 := Ext.push hN95 (.cells (madeCells #[.slice none 0 0] (n * 1)) 25 (0, 0)) _ _ g99
          refine w_p rfl (fun _ _ => ok_nilCheck_ptr rfl ⟨rfl, rfl, rfl⟩) ?_
          refine w_p rfl (fun _ _ => ok_fieldAddr (fld rfl) rfl ⟨rfl, rfl, rfl⟩) ?_
          refine w_e0 rfl (ok_store (ty rfl) rfl (v := .slice _ _ _) rfl rfl hR.r (by rw [hR.sz]; decide) ⟨trivial, ?_⟩)
          try have g95 := hR.keep 54 (.slice (some ⟨N12 + 1 + 1, 0, none⟩) n n) g95
          try have g97 := hR.keep 54 (.slice (some ⟨N12 + 1 + 1, 0, none⟩) n n) g97
          have hR := hR.setf 54 (.slice (some ⟨N12 + 1 + 1, 0, none⟩) n n) (by decide) rfl rfl
          refine w_p rfl (fun _ _ => ok_nilCheck_ptr rfl ⟨rfl, rfl, rfl⟩) ?_
          refine w_p rfl (fun _ _ => ok_fieldAddr (fld rfl) rfl ⟨rfl, rfl, rfl⟩) ?_
          refine w_e0 rfl (ok_store (ty rfl) rfl (v := .slice _ _ _) rfl rfl hR.r (by rw [hR.sz]; decide) ⟨trivial, ?_⟩)
          try have g95 := hR.keep 55 (.slice (some ⟨N12, 0, none⟩) n n) g95
          try have g97 := hR.keep 55 (.slice (some ⟨N12, 0, none⟩) n n) g97
          have hR := hR.setf 55 (.slice (some ⟨N12, 0, none⟩) n n) (by decide) rfl rfl
          refine w_p rfl (fun _ _ => ok_nilCheck_ptr rfl ⟨rfl, rfl, rfl⟩) ?_
          refine w_p rfl (fun _ _ => ok_fieldAddr (fld rfl) rfl ⟨rfl, rfl, rfl⟩) ?_
          refine w_e0 rfl (ok_store (ty rfl) rfl (v := .slice _ _ _) rfl rfl hR.r (by rw [hR.sz]; decide) ⟨trivial, ?_⟩)
          try have g95 := hR.keep 41 (.slice (some ⟨N12 + 1, 0, none⟩) n n) g95
          try have g97 := hR.keep 41 (.slice (some ⟨N12 + 1, 0, none⟩) n n) g97
          have hR := hR.setk 41 (.slice (some ⟨N12 + 1, 0, none⟩) n n) (by decide) rfl rfl
          refine w_nil ?_
          exact n_then ⟨⟨rfl, rfl, trivial⟩, rfl, _, N12 + 1 + 1, N12, (hR.cons g95).cons g97, by omega, hN4 _ (by have hlt : N < N12 := (by first | exact lt_of_free hN95 g4 | exact lt_of_free hN97 g4 | exact lt_of_free hN99 g4); omega), hN4 _ (by have hlt : N < N12 := (by first | exact lt_of_free hN95 g4 | exact lt_of_free hN97 g4 | exact lt_of_free hN99 g4); omega)⟩
      · skip
        refine w_e rfl (ok_makeSlice (sl rfl) (ty rfl) rfl rfl (by omega) (by omega) (by omega) (by omega) (l' := n) (c' := n) (by omega) (by omega) (fun hN99 => ⟨.inr ⟨_, rfl, rfl⟩, ?_⟩))
        have g99 := (hR.push hN99 (.cells (madeCells #[.slice none 0 0] (n * 1)) 25 (0, 0))).has.1
        have hR := hR.ext (Ext.push hN99 (.cells (madeCells #[.slice none 0 0] (n * 1)) 25 (0, 0)))
        try have g95 := Ext.push hN99 (.cells (madeCells #[.slice none 0 0] (n * 1)) 25 (0, 0)) _ _ g95
        try have g97 := Ext.push hN99 (.cells (madeCells #[.slice none 0 0] (n * 1)) 25 (0, 0)) _ _ g97
        refine w_cons ?_ (w_cons ?_ (w_none))
        · skip
          refine w_e rfl (ok_makeSlice (sl rfl) (ty rfl) rfl rfl (by omega) (by omega) (by omega) (by omega) (l' := n) (c' := n) (by omega) (by omega) (fun hN95 => ⟨.inr ⟨_, rfl, rfl⟩, ?_⟩))
          have g95 := (hR.push hN95 (.cells (madeCells #[.slice none 0 0] (n * 1)) 25 (0, 0))).has.1
          have hR := hR.ext (Ext.push hN95 (.cells (madeCells #[.slice none 0 0] (n * 1)) 25 (0, 0)))
          try have g97 := Ext.push hN95 (.cells (madeCells #[.slice none 0 0] (n * 1)) 25 (0, 0)) _ _ g97
          try have g99 := Ext.push hN95 (.cells (madeCells #[.slice none 0 0] (n * 1)) 25 (0, 0)) _ _ g99
          refine w_p rfl (fun _ _ => ok_nilCheck_ptr rfl ⟨rfl, rfl, rfl⟩) ?_
          refine w_p rfl (fun _ _ => ok_fieldAddr (fld rfl) rfl ⟨rfl, rfl, rfl⟩) ?_
          refine w_cons ?_ (w_cons ?_ (w_none))
          · skip
            refine w_e rfl (ok_makeSlice (sl rfl) (ty rfl) rfl rfl (by omega) (by omega) (by omega) (by omega) (l' := n) (c' := n) (by omega) (by omega) (fun hN97 => ⟨.inr ⟨_, rfl, rfl⟩, ?_⟩))
            have g97 := (hR.push hN97 (.cells (madeCells #[.slice none 0 0] (n * 1)) 25 (0, 0))).has.1
            have hR := hR.ext (Ext.push hN97 (.cells (madeCells #[.slice none 0 0] (n * 1)) 25 (0, 0)))
            try have g95 := Ext.push hN97 (.cells (madeCells #[.slice none 0 0] (n * 1)) 25 (0, 0)) _ _ g95
            try have g99 := Ext.push hN97 (.cells (madeCells #[.slice none 0 0] (n * 1)) 25 (0, 0)) _ _ g99
            refine w_e0 rfl (ok_store (ty rfl) rfl (v := .slice _ _ _) rfl rfl hR.r (by rw [hR.sz]; decide) ⟨trivial, ?_⟩)
            try have g95 := hR.keep 54 (.slice (some ⟨N12 + 1, 0, none⟩) n n) g95
            try have g97 := hR.keep 54 (.slice (some ⟨N12 + 1, 0, none⟩) n n) g97
            have hR := hR.setf 54 (.slice (some ⟨N12 + 1, 0, none⟩) n n) (by decide) rfl rfl
            refine w_p rfl (fun _ _ => ok_nilCheck_ptr rfl ⟨rfl, rfl, rfl⟩) ?_
            refine w_p rfl (fun _ _ => ok_fieldAddr (fld rfl) rfl ⟨rfl, rfl, rfl⟩) ?_
            refine w_e0 rfl (ok_store (ty rfl) rfl (v := .slice _ _ _) rfl rfl hR.r (by rw [hR.sz]; decide) ⟨trivial, ?_⟩)
            try have g95 := hR.keep 55 (.slice (some ⟨N12 + 1 + 1, 0, none⟩) n n) g95
            try have g97 := hR.keep 55 (.slice (some ⟨N12 + 1 + 1, 0, none⟩) n n) g97
            have hR := hR.setf 55 (.slice (some ⟨N12 + 1 + 1, 0, none⟩) n n) (by decide) rfl rfl
            refine w_p rfl (fun _ _ => ok_nilCheck_ptr rfl ⟨rfl, rfl, rfl⟩) ?_
            refine w_p rfl (fun _ _ => ok_fieldAddr (fld rfl) rfl ⟨rfl, rfl, rfl⟩) ?_
            refine w_e0 rfl (ok_store (ty rfl) rfl (v := .slice _ _ _) rfl rfl hR.r (by rw [hR.sz]; decide) ⟨trivial, ?_⟩)
            try have g95 := hR.keep 41 (.slice (some ⟨N12, 0, none⟩) n n) g95
            try have g97 := hR.keep 41 (.slice (some ⟨N12, 0, none⟩) n n) g97
            have hR := hR.setk 41 (.slice (some ⟨N12, 0, none⟩) n n) (by decide) rfl rfl
            refine w_nil ?_
            exact n_then ⟨⟨rfl, rfl, trivial⟩, rfl, _, N12 + 1, N12 + 1 + 1, (hR.cons g95).cons g97, by omega, hN4 _ (by have hlt : N < N12 := (by first | exact lt_of_free hN95 g4 | exact lt_of_free hN97 g4 | exact lt_of_free hN99 g4); omega), hN4 _ (by have hlt : N < N12 := (by first | exact lt_of_free hN95 g4 | exact lt_of_free hN97 g4 | exact lt_of_free hN99 g4); omega)⟩
          · skip
            refine w_e0 rfl (ok_store (ty rfl) rfl (v := .slice _ _ _) rfl rfl hR.r (by rw [hR.sz]; decide) ⟨trivial, ?_⟩)
            try have g95 := hR.keep 54 (.slice (some ⟨N12 + 1, 0, none⟩) n n) g95
            try have g97 := hR.keep 54 (.slice (some ⟨N12 + 1, 0, none⟩) n n) g97
            have hR := hR.setf 54 (.slice (some ⟨N12 + 1, 0, none⟩) n n) (by decide) rfl rfl
            refine w_e rfl (ok_makeSlice (sl rfl) (ty rfl) rfl rfl (by omega) (by omega) (by omega) (by omega) (l' := n) (c' := n) (by omega) (by omega) (fun hN97 => ⟨.inr ⟨_, rfl, rfl⟩, ?_⟩))
            have g97 := (hR.push hN97 (.cells (madeCells #[.slice none 0 0] (n * 1)) 25 (0, 0))).has.1
            have hR := hR.ext (Ext.push hN97 (.cells (madeCells #[.slice none 0 0] (n * 1)) 25 (0, 0)))
            try have g95 := Ext.push hN97 (.cells (madeCells #[.slice none 0 0] (n * 1)) 25 (0, 0)) _ _ g95
            try have g99 := Ext.push hN97 (.cells (madeCells #[.slice none 0 0] (n * 1)) 25 (0, 0)) _ _ g99
            refine w_p rfl (fun _ _ => ok_nilCheck_ptr rfl ⟨rfl, rfl, rfl⟩) ?_
            refine w_p rfl (fun _ _ => ok_fieldAddr (fld rfl) rfl ⟨rfl, rfl, rfl⟩) ?_
            refine w_e0 rfl (ok_store (ty rfl) rfl (v := .slice _ _ _) rfl rfl hR.r (by rw [hR.sz]; decide) ⟨trivial, ?_⟩)
            try have g95 := hR.keep 55 (.slice (some ⟨N12 + 1 + 1, 0, none⟩) n n) g95
            try have g97 := hR.keep 55 (.slice (some ⟨N12 + 1 + 1, 0, none⟩) n n) g97
            have hR := hR.setf 55 (.slice (some ⟨N12 + 1 + 1, 0, none⟩) n n) (by decide) rfl rfl
            refine w_p rfl (fun _ _ => ok_nilCheck_ptr rfl ⟨rfl, rfl, rfl⟩) ?_
            refine w_p rfl (fun _ _ => ok_fieldAddr (fld rfl) rfl ⟨rfl, rfl, rfl⟩) ?_
            refine w_e0 rfl (ok_store (ty rfl) rfl (v := .slice _ _ _) rfl rfl hR.r (by rw [hR.sz]; decide) ⟨trivial, ?_⟩)
            try have g95 := hR.keep 41 (.slice (some ⟨N12, 0, none⟩) n n) g95
            try have g97 := hR.keep 41 (.slice (some ⟨N12, 0, none⟩) n n) g97
            have hR := hR.setk 41 (.slice (some ⟨N12, 0, none⟩) n n) (by decide) rfl rfl
            refine w_nil ?_
            exact n_then ⟨⟨rfl, rfl, trivial⟩, rfl, _, N12 + 1, N12 + 1 + 1, (hR.cons g95).cons g97, by omega, hN4 _ (by have hlt : N < N12 := (by first | exact lt_of_free hN95 g4 | exact lt_of_free hN97 g4 | exact lt_of_free hN99 g4); omega), hN4 _ (by have hlt : N < N12 := (by first | exact lt_of_free hN95 g4 | exact lt_of_free hN97 g4 | exact lt_of_free hN99 g4); omega)⟩
        · skip
          refine w_e rfl (ok_makeSlice (sl rfl) (ty rfl) rfl rfl (by omega) (by omega) (by omega) (by omega) (l' := n) (c' := n) (by omega) (by omega) (fun hN97 => ⟨.inr ⟨_, rfl, rfl⟩, ?_⟩))
          have g97 := (hR.push hN97 (.cells (madeCells #[.slice none 0 0] (n * 1)) 25 (0, 0))).has.1
          have hR := hR.ext (Ext.push hN97 (.cells (madeCells #[.slice none 0 0] (n * 1)) 25 (0, 0)))
          try have g95 := Ext.push hN97 (.cells (madeCells #[.slice none 0 0] (n * 1)) 25 (0, 0)) _ _ g95
          try have g99 := Ext.push hN97 (.cells (madeCells #[.slice none 0 0] (n * 1)) 25 (0, 0)) _ _ g99
          refine w_e rfl (ok_makeSlice (sl rfl) (ty rfl) rfl rfl (by omega) (by omega) (by omega) (by omega) (l' := n) (c' := n) (by omega) (by omega) (fun hN95 => ⟨.inr ⟨_, rfl, rfl⟩, ?_⟩))
          have g95 := (hR.push hN95 (.cells (madeCells #[.slice none 0 0] (n * 1)) 25 (0, 0))).has.1
          have hR := hR.ext (Ext.push hN95 (.cells (madeCells #[.slice none 0 0] (n * 1)) 25 (0, 0)))
          try have g97 := Ext.push hN95 (.cells (madeCells #[.slice none 0 0] (n * 1)) 25 (0, 0)) _ _ g97
          try have g99 := Ext.push hN95 (.cells (madeCells #[.slice none 0 0] (n * 1)) 25 (0, 0)) _ _ g99
          refine w_p rfl (fun _ _ => ok_nilCheck_ptr rfl ⟨rfl, rfl, rfl⟩) ?_
          refine w_p rfl (fun _ _ => ok_fieldAddr (fld rfl) rfl ⟨rfl, rfl, rfl⟩) ?_
          refine w_e0 rfl (ok_store (ty rfl) rfl (v := .slice _ _ _) rfl rfl hR.r (by rw [hR.sz]; decide) ⟨trivial, ?_⟩)
          try have g95 := hR.keep 54 (.slice (some ⟨N12 + 1 + 1, 0, none⟩) n n) g95
          try have g97 := hR.keep 54 (.slice (some ⟨N12 + 1 + 1, 0, none⟩) n n) g97
          have hR := hR.setf 54 (.slice (some ⟨N12 + 1 + 1, 0, none⟩) n n) (by decide) rfl rfl
          refine w_p rfl (fun _ _ => ok_nilCheck_ptr rfl ⟨rfl, rfl, rfl⟩) ?_
          refine w_p rfl (fun _ _ => ok_fieldAddr (fld rfl) rfl ⟨rfl, rfl, rfl⟩) ?_
          refine w_e0 rfl (ok_store (ty rfl) rfl (v := .slice _ _ _) rfl rfl hR.r (by rw [hR.sz]; decide) ⟨trivial, ?_⟩)
          try have g95 := hR.keep 55 (.slice (some ⟨N12 + 1, 0, none⟩) n n) g95
          try have g97 := hR.keep 55 (.slice (some ⟨N12 + 1, 0, none⟩) n n) g97
          have hR := hR.setf 55 (.slice (some ⟨N12 + 1, 0, none⟩) n n) (by decide) rfl rfl
          refine w_p rfl (fun _ _ => ok_nilCheck_ptr rfl ⟨rfl, rfl, rfl⟩) ?_
          refine w_p rfl (fun _ _ => ok_fieldAddr (fld rfl) rfl ⟨rfl, rfl, rfl⟩) ?_
          refine w_e0 rfl (ok_store (ty rfl) rfl (v := .slice _ _ _) rfl rfl hR.r (by rw [hR.sz]; decide) ⟨trivial, ?_⟩)
          try have g95 := hR.keep 41 (.slice (some ⟨N12, 0, none⟩) n n) g95
          try have g97 := hR.keep 41 (.slice (some ⟨N12, 0, none⟩) n n) g97
          have hR := hR.setk 41 (.slice (some ⟨N12, 0, none⟩) n n) (by decide) rfl rfl
          refine w_nil ?_
          exact n_then ⟨⟨rfl, rfl, trivial⟩, rfl, _, N12 + 1 + 1, N12 + 1, (hR.cons g95).cons g97, by omega, hN4 _ (by have hlt : N < N12 := (by first | exact lt_of_free hN95 g4 | exact lt_of_free hN97 g4 | exact lt_of_free hN99 g4); omega), hN4 _ (by have hlt : N < N12 := (by first | exact lt_of_free hN95 g4 | exact lt_of_free hN97 g4 | exact lt_of_free hN99 g4); omega)⟩
    clear hR
    rintro E h13 N13 D ⟨hE, rfl, rc, bs, bp, hR, hsp, hfs, hfp⟩
    obtain ⟨E2, rfl⟩ := hE.ex
    refine n_then ?_
    refine c_seq ?_
    refine c_cut (fun E h' _ D => Fr E [(0, .pointer (some ⟨br, 0, none⟩)), (6, .int .i64 (n : Int))] ∧ D = [] ∧ ∃ rc, RI h br rb cb ((55, .slice (some ⟨bp, 0, none⟩) n n) :: (54, .slice (some ⟨bs, 0, none⟩) n n) :: [(0, .int .i64 ((1 : Nat) : Int)), (5, .slice none 0 0), (39, .slice none 0 0), (51, .slice (some ⟨N5, 0, none⟩) n n), (56, .int .i64 0), (57, .slice none 0 0)]) ((bp, .cells (madeCells #[.slice none 0 0] (n * 1)) 25 (0, 0)) :: (bs, .cells (madeCells #[.slice none 0 0] (n * 1)) 25 (0, 0)) :: [(N5, .cells pl 3 (0, 0))]) h' rc) ?_ ?_
    · skip
      refine c_draw mixed [0, 0, 0, 1, 0, 1, 0, 0, 2, 0, 0, 2] 12 rfl [((0, 2), [((1, 2), [((2, 2), [((4, 2), [((3, 0), [((6, 2), [((7, 2), [((5, 0), [((8, 0), [((9, 2), [((10, 2), [((11, 0), ())])])])]), ((8, 0), [((5, 0), [((9, 2), [((10, 2), [((11, 0), ())])])])])])])]), ((5, 0), [((3, 0), [((6, 2), [((7, 2), [((8, 0), [((9, 2), [((10, 2), [((11, 0), ())])])])])])])])])])])])] (by kernel_rfl) (by kernel_rfl) ?_
      refine w_p rfl (fun _ _ => ok_move (v := .pointer _) rfl ⟨rfl, rfl, rfl⟩) ?_
      refine w_p rfl (fun _ _ => ok_move (v := .pointer _) rfl ⟨rfl, rfl, rfl⟩) ?_
      refine w_p rfl (fun _ _ => ok_move (v := .int _ _) rfl ⟨rfl, rfl, rfl⟩) ?_
      refine w_p rfl (fun _ _ => ok_move (v := .int _ _) rfl ⟨rfl, rfl, rfl⟩) ?_
      refine w_cons ?_ (w_cons ?_ (w_none))
      · skip
        refine w_e rfl (ok_makeSlice (sl rfl) (ty rfl) rfl rfl (by omega) (by omega) (by omega) (by omega) (l' := n) (c' := n) (by omega) (by omega) (fun hN109 => ⟨.inr ⟨_, rfl, rfl⟩, ?_⟩))
        refine w_heap (fun h' => ∃ rc, RI h br rb cb ((55, .slice (some ⟨bp, 0, none⟩) n n) :: (54, .slice (some ⟨bs, 0, none⟩) n n) :: [(0, .int .i64 ((1 : Nat) : Int)), (5, .slice none 0 0), (39, .slice none 0 0), (51, .slice (some ⟨N5, 0, none⟩) n n), (56, .int .i64 0), (57, .slice none 0 0)]) ((bp, .cells (madeCells #[.slice none 0 0] (n * 1)) 25 (0, 0)) :: (bs, .cells (madeCells #[.slice none 0 0] (n * 1)) 25 (0, 0)) :: [(N5, .cells pl 3 (0, 0))]) h' rc) ⟨_, hR.ext (Ext.push hN109 _)⟩ ?_
        clear hR
        rintro hq ⟨rc, hR⟩
        refine w_p rfl (fun _ _ => ok_nilCheck_ptr rfl ⟨rfl, rfl, rfl⟩) ?_
        refine w_p rfl (fun _ _ => ok_fieldAddr (fld rfl) rfl ⟨rfl, rfl, rfl⟩) ?_
        refine w_cons ?_ (w_cons ?_ (w_none))
        · skip
          refine w_e rfl (ok_makeSlice (sl rfl) (ty rfl) rfl rfl (by omega) (by omega) (by omega) (by omega) (l' := n) (c' := n) (by omega) (by omega) (fun hN111 => ⟨.inr ⟨_, rfl, rfl⟩, ?_⟩))
          refine w_heap (fun h' => ∃ rc, RI h br rb cb ((55, .slice (some ⟨bp, 0, none⟩) n n) :: (54, .slice (some ⟨bs, 0, none⟩) n n) :: [(0, .int .i64 ((1 : Nat) : Int)), (5, .slice none 0 0), (39, .slice none 0 0), (51, .slice (some ⟨N5, 0, none⟩) n n), (56, .int .i64 0), (57, .slice none 0 0)]) ((bp, .cells (madeCells #[.slice none 0 0] (n * 1)) 25 (0, 0)) :: (bs, .cells (madeCells #[.slice none 0 0] (n * 1)) 25 (0, 0)) :: [(N5, .cells pl 3 (0, 0))]) h' rc) ⟨_, hR.ext (Ext.push hN111 _)⟩ ?_
          clear hR
          rintro hq ⟨rc, hR⟩
          refine w_e0 rfl (ok_store (ty rfl) rfl (v := .slice _ _ _) rfl rfl hR.r (by rw [hR.sz]; decide) ⟨trivial, ?_⟩)
          refine w_heap (fun h' => ∃ rc, RI h br rb cb ((55, .slice (some ⟨bp, 0, none⟩) n n) :: (54, .slice (some ⟨bs, 0, none⟩) n n) :: [(0, .int .i64 ((1 : Nat) : Int)), (5, .slice none 0 0), (39, .slice none 0 0), (51, .slice (some ⟨N5, 0, none⟩) n n), (56, .int .i64 0), (57, .slice none 0 0)]) ((bp, .cells (madeCells #[.slice none 0 0] (n * 1)) 25 (0, 0)) :: (bs, .cells (madeCells #[.slice none 0 0] (n * 1)) 25 (0, 0)) :: [(N5, .cells pl 3 (0, 0))]) h' rc) ⟨_, hR.setk 59 _ (by decide) rfl rfl⟩ ?_
          clear hR
          rintro hq ⟨rc, hR⟩
          refine w_p rfl (fun _ _ => ok_nilCheck_ptr rfl ⟨rfl, rfl, rfl⟩) ?_
          refine w_p rfl (fun _ _ => ok_fieldAddr (fld rfl) rfl ⟨rfl, rfl, rfl⟩) ?_
          refine w_e0 rfl (ok_store (ty rfl) rfl (v := .slice _ _ _) rfl rfl hR.r (by rw [hR.sz]; decide) ⟨trivial, ?_⟩)
          refine w_heap (fun h' => ∃ rc, RI h br rb cb ((55, .slice (some ⟨bp, 0, none⟩) n n) :: (54, .slice (some ⟨bs, 0, none⟩) n n) :: [(0, .int .i64 ((1 : Nat) : Int)), (5, .slice none 0 0), (39, .slice none 0 0), (51, .slice (some ⟨N5, 0, none⟩) n n), (56, .int .i64 0), (57, .slice none 0 0)]) ((bp, .cells (madeCells #[.slice none 0 0] (n * 1)) 25 (0, 0)) :: (bs, .cells (madeCells #[.slice none 0 0] (n * 1)) 25 (0, 0)) :: [(N5, .cells pl 3 (0, 0))]) h' rc) ⟨_, hR.setk 60 _ (by decide) rfl rfl⟩ ?_
          clear hR
          rintro hq ⟨rc, hR⟩
          refine w_nil ?_
          exact n_then ⟨⟨rfl, rfl, trivial⟩, rfl, _, hR⟩
        · skip
          refine w_e0 rfl (ok_store (ty rfl) rfl (v := .slice _ _ _) rfl rfl hR.r (by rw [hR.sz]; decide) ⟨trivial, ?_⟩)
          refine w_heap (fun h' => ∃ rc, RI h br rb cb ((55, .slice (some ⟨bp, 0, none⟩) n n) :: (54, .slice (some ⟨bs, 0, none⟩) n n) :: [(0, .int .i64 ((1 : Nat) : Int)), (5, .slice none 0 0), (39, .slice none 0 0), (51, .slice (some ⟨N5, 0, none⟩) n n), (56, .int .i64 0), (57, .slice none 0 0)]) ((bp, .cells (madeCells #[.slice none 0 0] (n * 1)) 25 (0, 0)) :: (bs, .cells (madeCells #[.slice none 0 0] (n * 1)) 25 (0, 0)) :: [(N5, .cells pl 3 (0, 0))]) h' rc) ⟨_, hR.setk 59 _ (by decide) rfl rfl⟩ ?_
          clear hR
          rintro hq ⟨rc, hR⟩
          refine w_e rfl (ok_makeSlice (sl rfl) (ty rfl) rfl rfl (by omega) (by omega) (by omega) (by omega) (l' := n) (c' := n) (by omega) (by omega) (fun hN111 => ⟨.inr ⟨_, rfl, rfl⟩, ?_⟩))
          refine w_heap (fun h' => ∃ rc, RI h br rb cb ((55, .slice (some ⟨bp, 0, none⟩) n n) :: (54, .slice (some ⟨bs, 0, none⟩) n n) :: [(0, .int .i64 ((1 : Nat) : Int)), (5, .slice none 0 0), (39, .slice none 0 0), (51, .slice (some ⟨N5, 0, none⟩) n n), (56, .int .i64 0), (57, .slice none 0 0)]) ((bp, .cells (madeCells #[.slice none 0 0] (n * 1)) 25 (0, 0)) :: (bs, .cells (madeCells #[.slice none 0 0] (n * 1)) 25 (0, 0)) :: [(N5, .cells pl 3 (0, 0))]) h' rc) ⟨_, hR.ext (Ext.push hN111 _)⟩ ?_
          clear hR
          rintro hq ⟨rc, hR⟩
          refine w_p rfl (fun _ _ => ok_nilCheck_ptr rfl ⟨rfl, rfl, rfl⟩) ?_
          refine w_p rfl (fun _ _ => ok_fieldAddr (fld rfl) rfl ⟨rfl, rfl, rfl⟩) ?_
          refine w_e0 rfl (ok_store (ty rfl) rfl (v := .slice _ _ _) rfl rfl hR.r (by rw [hR.sz]; decide) ⟨trivial, ?_⟩)
          refine w_heap (fun h' => ∃ rc, RI h br rb cb ((55, .slice (some ⟨bp, 0, none⟩) n n) :: (54, .slice (some ⟨bs, 0, none⟩) n n) :: [(0, .int .i64 ((1 : Nat) : Int)), (5, .slice none 0 0), (39, .slice none 0 0), (51, .slice (some ⟨N5, 0, none⟩) n n), (56, .int .i64 0), (57, .slice none 0 0)]) ((bp, .cells (madeCells #[.slice none 0 0] (n * 1)) 25 (0, 0)) :: (bs, .cells (madeCells #[.slice none 0 0] (n * 1)) 25 (0, 0)) :: [(N5, .cells pl 3 (0, 0))]) h' rc) ⟨_, hR.setk 60 _ (by decide) rfl rfl⟩ ?_
          clear hR
          rintro hq ⟨rc, hR⟩
          refine w_nil ?_
          exact n_then ⟨⟨rfl, rfl, trivial⟩, rfl, _, hR⟩
      · skip
        refine w_e rfl (ok_makeSlice (sl rfl) (ty rfl) rfl rfl (by omega) (by omega) (by omega) (by omega) (l' := n) (c' := n) (by omega) (by omega) (fun hN111 => ⟨.inr ⟨_, rfl, rfl⟩, ?_⟩))
        refine w_heap (fun h' => ∃ rc, RI h br rb cb ((55, .slice (some ⟨bp, 0, none⟩) n n) :: (54, .slice (some ⟨bs, 0, none⟩) n n) :: [(0, .int .i64 ((1 : Nat) : Int)), (5, .slice none 0 0), (39, .slice none 0 0), (51, .slice (some ⟨N5, 0, none⟩) n n), (56, .int .i64 0), (57, .slice none 0 0)]) ((bp, .cells (madeCells #[.slice none 0 0] (n * 1)) 25 (0, 0)) :: (bs, .cells (madeCells #[.slice none 0 0] (n * 1)) 25 (0, 0)) :: [(N5, .cells pl 3 (0, 0))]) h' rc) ⟨_, hR.ext (Ext.push hN111 _)⟩ ?_
        clear hR
        rintro hq ⟨rc, hR⟩
        refine w_e rfl (ok_makeSlice (sl rfl) (ty rfl) rfl rfl (by omega) (by omega) (by omega) (by omega) (l' := n) (c' := n) (by omega) (by omega) (fun hN109 => ⟨.inr ⟨_, rfl, rfl⟩, ?_⟩))
        refine w_heap (fun h' => ∃ rc, RI h br rb cb ((55, .slice (some ⟨bp, 0, none⟩) n n) :: (54, .slice (some ⟨bs, 0, none⟩) n n) :: [(0, .int .i64 ((1 : Nat) : Int)), (5, .slice none 0 0), (39, .slice none 0 0), (51, .slice (some ⟨N5, 0, none⟩) n n), (56, .int .i64 0), (57, .slice none 0 0)]) ((bp, .cells (madeCells #[.slice none 0 0] (n * 1)) 25 (0, 0)) :: (bs, .cells (madeCells #[.slice none 0 0] (n * 1)) 25 (0, 0)) :: [(N5, .cells pl 3 (0, 0))]) h' rc) ⟨_, hR.ext (Ext.push hN109 _)⟩ ?_
        clear hR
        rintro hq ⟨rc, hR⟩
        refine w_p rfl (fun _ _ => ok_nilCheck_ptr rfl ⟨rfl, rfl, rfl⟩) ?_
        refine w_p rfl (fun _ _ => ok_fieldAddr (fld rfl) rfl ⟨rfl, rfl, rfl⟩) ?_
        refine w_e0 rfl (ok_store (ty rfl) rfl (v := .slice _ _ _) rfl rfl hR.r (by rw [hR.sz]; decide) ⟨trivial, ?_⟩)
        refine w_heap (fun h' => ∃ rc, RI h br rb cb ((55, .slice (some ⟨bp, 0, none⟩) n n) :: (54, .slice (some ⟨bs, 0, none⟩) n n) :: [(0, .int .i64 ((1 : Nat) : Int)), (5, .slice none 0 0), (39, .slice none 0 0), (51, .slice (some ⟨N5, 0, none⟩) n n), (56, .int .i64 0), (57, .slice none 0 0)]) ((bp, .cells (madeCells #[.slice none 0 0] (n * 1)) 25 (0, 0)) :: (bs, .cells (madeCells #[.slice none 0 0] (n * 1)) 25 (0, 0)) :: [(N5, .cells pl 3 (0, 0))]) h' rc) ⟨_, hR.setk 59 _ (by decide) rfl rfl⟩ ?_
        clear hR
        rintro hq ⟨rc, hR⟩
        refine w_p rfl (fun _ _ => ok_nilCheck_ptr rfl ⟨rfl, rfl, rfl⟩) ?_
        refine w_p rfl (fun _ _ => ok_fieldAddr (fld rfl) rfl ⟨rfl, rfl, rfl⟩) ?_
        refine w_e0 rfl (ok_store (ty rfl) rfl (v := .slice _ _ _) rfl rfl hR.r (by rw [hR.sz]; decide) ⟨trivial, ?_⟩)
        refine w_heap (fun h' => ∃ rc, RI h br rb cb ((55, .slice (some ⟨bp, 0, none⟩) n n) :: (54, .slice (some ⟨bs, 0, none⟩) n n) :: [(0, .int .i64 ((1 : Nat) : Int)), (5, .slice none 0 0), (39, .slice none 0 0), (51, .slice (some ⟨N5, 0, none⟩) n n), (56, .int .i64 0), (57, .slice none 0 0)]) ((bp, .cells (madeCells #[.slice none 0 0] (n * 1)) 25 (0, 0)) :: (bs, .cells (madeCells #[.slice none 0 0] (n * 1)) 25 (0, 0)) :: [(N5, .cells pl 3 (0, 0))]) h' rc) ⟨_, hR.setk 60 _ (by decide) rfl rfl⟩ ?_
        clear hR
        rintro hq ⟨rc, hR⟩
        refine w_nil ?_
        exact n_then ⟨⟨rfl, rfl, trivial⟩, rfl, _, hR⟩
    clear hR
    rintro E h14 N14 D ⟨hE, rfl, rc, hR⟩
    obtain ⟨E3, rfl⟩ := hE.ex
    refine n_then ?_
    refine c_seq ?_
    refine c_cut (fun E h' _ D => Fr E [(0, .pointer (some ⟨br, 0, none⟩)), (6, .int .i64 (n : Int))] ∧ D = [] ∧ ∃ rc, RI h br rb cb ((55, .slice (some ⟨bp, 0, none⟩) n n) :: (54, .slice (some ⟨bs, 0, none⟩) n n) :: [(0, .int .i64 ((1 : Nat) : Int)), (5, .slice none 0 0), (39, .slice none 0 0), (51, .slice (some ⟨N5, 0, none⟩) n n), (56, .int .i64 0), (57, .slice none 0 0)]) ((bp, .cells (madeCells #[.slice none 0 0] (n * 1)) 25 (0, 0)) :: (bs, .cells (madeCells #[.slice none 0 0] (n * 1)) 25 (0, 0)) :: [(N5, .cells pl 3 (0, 0))]) h' rc) ?_ ?_
    · skip
      refine c_draw mixed [0, 0, 0, 0, 0, 0, 0, 0, 1, 0, 0, 0, 0, 0, 0, 1, 0, 0, 2, 0, 0, 2] 22 rfl [((0, 2), [((1, 2), [((2, 2), [((3, 2), [((4, 2), [((5, 2), [((6, 1), [((7, 2), [((9, 2), [((10, 2), [((11, 2), [((12, 2), [((13, 1), [((14, 2), [((8, 0), [((16, 2), [((17, 2), [((15, 0), [((18, 0), [((19, 2), [((20, 2), [((21, 0), ())])])])]), ((18, 0), [((15, 0), [((19, 2), [((20, 2), [((21, 0), ())])])])])])])]), ((15, 0), [((8, 0), [((16, 2), [((17, 2), [((18, 0), [((19, 2), [((20, 2), [((21, 0), ())])])])])])])])])])])])])])])])])])])])])])] (by kernel_rfl) (by kernel_rfl) ?_
      refine w_p rfl (fun _ _ => ok_move (v := .pointer _) rfl ⟨rfl, rfl, rfl⟩) ?_
      refine w_p rfl (fun _ _ => ok_move (v := .pointer _) rfl ⟨rfl, rfl, rfl⟩) ?_
      refine w_p rfl (fun _ _ => ok_move (v := .pointer _) rfl ⟨rfl, rfl, rfl⟩) ?_
      refine w_p rfl (fun _ _ => ok_nilCheck_ptr rfl ⟨rfl, rfl, rfl⟩) ?_
      refine w_p rfl (fun _ _ => ok_fieldAddr (fld rfl) rfl ⟨rfl, rfl, rfl⟩) ?_
      refine w_p rfl (fun _ _ => ok_fieldAddr (fld rfl) rfl ⟨rfl, rfl, rfl⟩) ?_
      refine w_r rfl (fun _ _ hExt => ok_load (ty rfl) rfl (hExt _ _ hR.r) hR.f.2.2.2.1 ⟨rfl, rfl, rfl⟩) ?_
      refine w_p rfl (fun _ _ => ok_len (sl rfl) rfl ⟨rfl, rfl, rfl⟩) ?_
      refine w_p rfl (fun _ _ => ok_move (v := .pointer _) rfl ⟨rfl, rfl, rfl⟩) ?_
      refine w_p rfl (fun _ _ => ok_nilCheck_ptr rfl ⟨rfl, rfl, rfl⟩) ?_
      refine w_p rfl (fun _ _ => ok_fieldAddr (fld rfl) rfl ⟨rfl, rfl, rfl⟩) ?_
      refine w_p rfl (fun _ _ => ok_fieldAddr (fld rfl) rfl ⟨rfl, rfl, rfl⟩) ?_
      refine w_r rfl (fun _ _ hExt => ok_load (ty rfl) rfl (hExt _ _ hR.r) hR.f.2.2.2.1 ⟨rfl, rfl, rfl⟩) ?_
      refine w_p rfl (fun _ _ => ok_len (sl rfl) rfl ⟨rfl, rfl, rfl⟩) ?_
      refine w_cons ?_ (w_cons ?_ (w_none))
      · skip
        refine w_e rfl (ok_makeSlice (sl rfl) (ty rfl) rfl rfl (by omega) (by omega) (by omega) (by omega) (l' := 0) (c' := 0) (by omega) (by omega) (fun hN124 => ⟨.inr ⟨_, rfl, rfl⟩, ?_⟩))
        refine w_heap (fun h' => ∃ rc, RI h br rb cb ((55, .slice (some ⟨bp, 0, none⟩) n n) :: (54, .slice (some ⟨bs, 0, none⟩) n n) :: [(0, .int .i64 ((1 : Nat) : Int)), (5, .slice none 0 0), (39, .slice none 0 0), (51, .slice (some ⟨N5, 0, none⟩) n n), (56, .int .i64 0), (57, .slice none 0 0)]) ((bp, .cells (madeCells #[.slice none 0 0] (n * 1)) 25 (0, 0)) :: (bs, .cells (madeCells #[.slice none 0 0] (n * 1)) 25 (0, 0)) :: [(N5, .cells pl 3 (0, 0))]) h' rc) ⟨_, hR.ext (Ext.push hN124 _)⟩ ?_
        clear hR
        rintro hq ⟨rc, hR⟩
        refine w_p rfl (fun _ _ => ok_nilCheck_ptr rfl ⟨rfl, rfl, rfl⟩) ?_
        refine w_p rfl (fun _ _ => ok_fieldAddr (fld rfl) rfl ⟨rfl, rfl, rfl⟩) ?_
        refine w_cons ?_ (w_cons ?_ (w_none))
        · skip
          refine w_e rfl (ok_makeSlice (sl rfl) (ty rfl) rfl rfl (by omega) (by omega) (by omega) (by omega) (l' := 0) (c' := 0) (by omega) (by omega) (fun hN131 => ⟨.inr ⟨_, rfl, rfl⟩, ?_⟩))
          refine w_heap (fun h' => ∃ rc, RI h br rb cb ((55, .slice (some ⟨bp, 0, none⟩) n n) :: (54, .slice (some ⟨bs, 0, none⟩) n n) :: [(0, .int .i64 ((1 : Nat) : Int)), (5, .slice none 0 0), (39, .slice none 0 0), (51, .slice (some ⟨N5, 0, none⟩) n n), (56, .int .i64 0), (57, .slice none 0 0)]) ((bp, .cells (madeCells #[.slice none 0 0] (n * 1)) 25 (0, 0)) :: (bs, .cells (madeCells #[.slice none 0 0] (n * 1)) 25 (0, 0)) :: [(N5, .cells pl 3 (0, 0))]) h' rc) ⟨_, hR.ext (Ext.push hN131 _)⟩ ?_
          clear hR
          rintro hq ⟨rc, hR⟩
          refine w_e0 rfl (ok_store (ty rfl) rfl (v := .slice _ _ _) rfl rfl hR.r (by rw [hR.sz]; decide) ⟨trivial, ?_⟩)
          refine w_heap (fun h' => ∃ rc, RI h br rb cb ((55, .slice (some ⟨bp, 0, none⟩) n n) :: (54, .slice (some ⟨bs, 0, none⟩) n n) :: [(0, .int .i64 ((1 : Nat) : Int)), (5, .slice none 0 0), (39, .slice none 0 0), (51, .slice (some ⟨N5, 0, none⟩) n n), (56, .int .i64 0), (57, .slice none 0 0)]) ((bp, .cells (madeCells #[.slice none 0 0] (n * 1)) 25 (0, 0)) :: (bs, .cells (madeCells #[.slice none 0 0] (n * 1)) 25 (0, 0)) :: [(N5, .cells pl 3 (0, 0))]) h' rc) ⟨_, hR.setk 44 _ (by decide) rfl rfl⟩ ?_
          clear hR
          rintro hq ⟨rc, hR⟩
          refine w_p rfl (fun _ _ => ok_nilCheck_ptr rfl ⟨rfl, rfl, rfl⟩) ?_
          refine w_p rfl (fun _ _ => ok_fieldAddr (fld rfl) rfl ⟨rfl, rfl, rfl⟩) ?_
          refine w_e0 rfl (ok_store (ty rfl) rfl (v := .slice _ _ _) rfl rfl hR.r (by rw [hR.sz]; decide) ⟨trivial, ?_⟩)
          refine w_heap (fun h' => ∃ rc, RI h br rb cb ((55, .slice (some ⟨bp, 0, none⟩) n n) :: (54, .slice (some ⟨bs, 0, none⟩) n n) :: [(0, .int .i64 ((1 : Nat) : Int)), (5, .slice none 0 0), (39, .slice none 0 0), (51, .slice (some ⟨N5, 0, none⟩) n n), (56, .int .i64 0), (57, .slice none 0 0)]) ((bp, .cells (madeCells #[.slice none 0 0] (n * 1)) 25 (0, 0)) :: (bs, .cells (madeCells #[.slice none 0 0] (n * 1)) 25 (0, 0)) :: [(N5, .cells pl 3 (0, 0))]) h' rc) ⟨_, hR.setk 45 _ (by decide) rfl rfl⟩ ?_
          clear hR
          rintro hq ⟨rc, hR⟩
          refine w_nil ?_
          exact n_then ⟨⟨rfl, rfl, trivial⟩, rfl, _, hR⟩
        · skip
          refine w_e0 rfl (ok_store (ty rfl) rfl (v := .slice _ _ _) rfl rfl hR.r (by rw [hR.sz]; decide) ⟨trivial, ?_⟩)
          refine w_heap (fun h' => ∃ rc, RI h br rb cb ((55, .slice (some ⟨bp, 0, none⟩) n n) :: (54, .slice (some ⟨bs, 0, none⟩) n n) :: [(0, .int .i64 ((1 : Nat) : Int)), (5, .slice none 0 0), (39, .slice none 0 0), (51, .slice (some ⟨N5, 0, none⟩) n n), (56, .int .i64 0), (57, .slice none 0 0)]) ((bp, .cells (madeCells #[.slice none 0 0] (n * 1)) 25 (0, 0)) :: (bs, .cells (madeCells #[.slice none 0 0] (n * 1)) 25 (0, 0)) :: [(N5, .cells pl 3 (0, 0))]) h' rc) ⟨_, hR.setk 44 _ (by decide) rfl rfl⟩ ?_
          clear hR
          rintro hq ⟨rc, hR⟩
          refine w_e rfl (ok_makeSlice (sl rfl) (ty rfl) rfl rfl (by omega) (by omega) (by omega) (by omega) (l' := 0) (c' := 0) (by omega) (by omega) (fun hN131 => ⟨.inr ⟨_, rfl, rfl⟩, ?_⟩))
          refine w_heap (fun h' => ∃ rc, RI h br rb cb ((55, .slice (some ⟨bp, 0, none⟩) n n) :: (54, .slice (some ⟨bs, 0, none⟩) n n) :: [(0, .int .i64 ((1 : Nat) : Int)), (5, .slice none 0 0), (39, .slice none 0 0), (51, .slice (some ⟨N5, 0, none⟩) n n), (56, .int .i64 0), (57, .slice none 0 0)]) ((bp, .cells (madeCells #[.slice none 0 0] (n * 1)) 25 (0, 0)) :: (bs, .cells (madeCells #[.slice none 0 0] (n * 1)) 25 (0, 0)) :: [(N5, .cells pl 3 (0, 0))]) h' rc) ⟨_, hR.ext (Ext.push hN131 _)⟩ ?_
          clear hR
          rintro hq ⟨rc, hR⟩
          refine w_p rfl (fun _ _ => ok_nilCheck_ptr rfl ⟨rfl, rfl, rfl⟩) ?_
          refine w_p rfl (fun _ _ => ok_fieldAddr (fld rfl) rfl ⟨rfl, rfl, rfl⟩) ?_
          refine w_e0 rfl (ok_store (ty rfl) rfl (v := .slice _ _ _) rfl rfl hR.r (by rw [hR.sz]; decide) ⟨trivial, ?_⟩)
          refine w_heap (fun h' => ∃ rc, RI h br rb cb ((55, .slice (some ⟨bp, 0, none⟩) n n) :: (54, .slice (some ⟨bs, 0, none⟩) n n) :: [(0, .int .i64 ((1 : Nat) : Int)), (5, .slice none 0 0), (39, .slice none 0 0), (51, .slice (some ⟨N5, 0, none⟩) n n), (56, .int .i64 0), (57, .slice none 0 0)]) ((bp, .cells (madeCells #[.slice none 0 0] (n * 1)) 25 (0, 0)) :: (bs, .cells (madeCells #[.slice none 0 0] (n * 1)) 25 (0, 0)) :: [(N5, .cells pl 3 (0, 0))]) h' rc) ⟨_, hR.setk 45 _ (by decide) rfl rfl⟩ ?_
          clear hR
          rintro hq ⟨rc, hR⟩
          refine w_nil ?_
          exact n_then ⟨⟨rfl, rfl, trivial⟩, rfl, _, hR⟩
      · skip
        refine w_e rfl (ok_makeSlice (sl rfl) (ty rfl) rfl rfl (by omega) (by omega) (by omega) (by omega) (l' := 0) (c' := 0) (by omega) (by omega) (fun hN131 => ⟨.inr ⟨_, rfl, rfl⟩, ?_⟩))
        refine w_heap (fun h' => ∃ rc, RI h br rb cb ((55, .slice (some ⟨bp, 0, none⟩) n n) :: (54, .slice (some ⟨bs, 0, none⟩) n n) :: [(0, .int .i64 ((1 : Nat) : Int)), (5, .slice none 0 0), (39, .slice none 0 0), (51, .slice (some ⟨N5, 0, none⟩) n n), (56, .int .i64 0), (57, .slice none 0 0)]) ((bp, .cells (madeCells #[.slice none 0 0] (n * 1)) 25 (0, 0)) :: (bs, .cells (madeCells #[.slice none 0 0] (n * 1)) 25 (0, 0)) :: [(N5, .cells pl 3 (0, 0))]) h' rc) ⟨_, hR.ext (Ext.push hN131 _)⟩ ?_
        clear hR
        rintro hq ⟨rc, hR⟩
        refine w_e rfl (ok_makeSlice (sl rfl) (ty rfl) rfl rfl (by omega) (by omega) (by omega) (by omega) (l' := 0) (c' := 0) (by omega) (by omega) (fun hN124 => ⟨.inr ⟨_, rfl, rfl⟩, ?_⟩))
        refine w_heap (fun h' => ∃ rc, RI h br rb cb ((55, .slice (some ⟨bp, 0, none⟩) n n) :: (54, .slice (some ⟨bs, 0, none⟩) n n) :: [(0, .int .i64 ((1 : Nat) : Int)), (5, .slice none 0 0), (39, .slice none 0 0), (51, .slice (some ⟨N5, 0, none⟩) n n), (56, .int .i64 0), (57, .slice none 0 0)]) ((bp, .cells (madeCells #[.slice none 0 0] (n * 1)) 25 (0, 0)) :: (bs, .cells (madeCells #[.slice none 0 0] (n * 1)) 25 (0, 0)) :: [(N5, .cells pl 3 (0, 0))]) h' rc) ⟨_, hR.ext (Ext.push hN124 _)⟩ ?_
        clear hR
        rintro hq ⟨rc, hR⟩
        refine w_p rfl (fun _ _ => ok_nilCheck_ptr rfl ⟨rfl, rfl, rfl⟩) ?_
        refine w_p rfl (fun _ _ => ok_fieldAddr (fld rfl) rfl ⟨rfl, rfl, rfl⟩) ?_
        refine w_e0 rfl (ok_store (ty rfl) rfl (v := .slice _ _ _) rfl rfl hR.r (by rw [hR.sz]; decide) ⟨trivial, ?_⟩)
        refine w_heap (fun h' => ∃ rc, RI h br rb cb ((55, .slice (some ⟨bp, 0, none⟩) n n) :: (54, .slice (some ⟨bs, 0, none⟩) n n) :: [(0, .int .i64 ((1 : Nat) : Int)), (5, .slice none 0 0), (39, .slice none 0 0), (51, .slice (some ⟨N5, 0, none⟩) n n), (56, .int .i64 0), (57, .slice none 0 0)]) ((bp, .cells (madeCells #[.slice none 0 0] (n * 1)) 25 (0, 0)) :: (bs, .cells (madeCells #[.slice none 0 0] (n * 1)) 25 (0, 0)) :: [(N5, .cells pl 3 (0, 0))]) h' rc) ⟨_, hR.setk 44 _ (by decide) rfl rfl⟩ ?_
        clear hR
        rintro hq ⟨rc, hR⟩
        refine w_p rfl (fun _ _ => ok_nilCheck_ptr rfl ⟨rfl, rfl, rfl⟩) ?_
        refine w_p rfl (fun _ _ => ok_fieldAddr (fld rfl) rfl ⟨rfl, rfl, rfl⟩) ?_
        refine w_e0 rfl (ok_store (ty rfl) rfl (v := .slice _ _ _) rfl rfl hR.r (by rw [hR.sz]; decide) ⟨trivial, ?_⟩)
        refine w_heap (fun h' => ∃ rc, RI h br rb cb ((55, .slice (some ⟨bp, 0, none⟩) n n) :: (54, .slice (some ⟨bs, 0, none⟩) n n) :: [(0, .int .i64 ((1 : Nat) : Int)), (5, .slice none 0 0), (39, .slice none 0 0), (51, .slice (some ⟨N5, 0, none⟩) n n), (56, .int .i64 0), (57, .slice none 0 0)]) ((bp, .cells (madeCells #[.slice none 0 0] (n * 1)) 25 (0, 0)) :: (bs, .cells (madeCells #[.slice none 0 0] (n * 1)) 25 (0, 0)) :: [(N5, .cells pl 3 (0, 0))]) h' rc) ⟨_, hR.setk 45 _ (by decide) rfl rfl⟩ ?_
        clear hR
        rintro hq ⟨rc, hR⟩
        refine w_nil ?_
        exact n_then ⟨⟨rfl, rfl, trivial⟩, rfl, _, hR⟩
    clear hR
    rintro E h15 N15 D ⟨hE, rfl, rc, hR⟩
    obtain ⟨E4, rfl⟩ := hE.ex
    refine n_then ?_
    refine c_region (by kernel_rfl) ?_
    refine st_q (ok_move (v := .pointer _) rfl ⟨rfl, rfl, rfl⟩) ?_
    refine st_q (ok_move (v := .pointer _) rfl ⟨rfl, rfl, rfl⟩) ?_
    refine st_q (ok_nilCheck_ptr rfl ⟨rfl, rfl, rfl⟩) ?_
    refine st_q (ok_fieldAddr (fld rfl) rfl ⟨rfl, rfl, rfl⟩) ?_
    refine st_q (ok_fieldAddr (fld rfl) rfl ⟨rfl, rfl, rfl⟩) ?_
    refine st_q (ok_load (ty rfl) rfl hR.r hR.f.2.2.1 ⟨rfl, rfl, rfl⟩) ?_
    refine st (ok_makeSlice (sl rfl) (ty rfl) rfl rfl (by omega) (by omega) (by omega) (by omega) (l' := 1) (c' := 1) (by omega) (by omega) (fun hN142 => ?_))
    refine st_q (ok_nilCheck_ptr rfl ⟨rfl, rfl, rfl⟩) ?_
    refine st_q (ok_fieldAddr (fld rfl) rfl ⟨rfl, rfl, rfl⟩) ?_
    refine st0 (ok_store (ty rfl) rfl (v := .slice _ _ _) rfl rfl (Ext.push hN142 _ _ _ hR.r) (by rw [hR.sz]; decide) ?_)
    refine o_nil ?_
    refine n_leave (leave_none rfl ⟨rfl, ?_⟩)
    have hA := (hR.ext (Ext.push hN142 (.cells (madeCells #[.int .u64 0] (1 * 1)) 181 (0, 0)))).setk 47 (.slice (some ⟨N15, 0, none⟩) 1 1) (by decide) rfl rfl
    obtain ⟨q55, q54, _, _, q39, q51, q56, q57, _⟩ := hA.f
    obtain ⟨gbp, gbs, gpl, _⟩ := hA.has
    have hrep : some (Obj.cells (madeCells #[.slice none 0 0] (n * 1)) 25 (0, 0)) = some (Obj.cells (Array.replicate n (.slice none 0 0)) 25 (0, 0)) := by rw [madeCells_one, Nat.mul_one]
    exact ⟨hA.x, _, N5, bs, bp, pl, hA.r, hA.sz, q39, q51, q54, q55, q56, q57, gpl, gpv, gbs.trans hrep, gbp.trans hrep, hsp, hfs, hfp⟩
end
end Sx
end Go.Proofs.YbulkcsqkGreatDoor
