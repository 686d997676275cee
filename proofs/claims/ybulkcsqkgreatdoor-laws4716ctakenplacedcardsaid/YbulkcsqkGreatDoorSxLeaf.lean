import Derived.Test.YbulkcsqkGreatDoorSxTab
namespace Go.Proofs.YbulkcsqkGreatDoor
namespace Sx
set_option maxRecDepth 10000
variable {w0 : World}

theorem row_ok {h : Hp} {N bc oc rb W L : Nat} {cs : Array Value} {te : TypeId} {fz : Nat × Nat} {i : Nat} (hb : h bc = some (.cells cs te fz)) (hw : cs[oc]? = some (.int .i64 W)) (hr : cs[oc + 1]? = some (.slice (some ⟨rb, 0, none⟩) L L))
    (hi : (i + 1) * W ≤ L) (hW : 0 < W) (hL : L ≤ 1000000) :
    CallsX Ybaz.prog w0 32 #[.pointer (some ⟨bc, oc, none⟩), .int .i64 i] h N (fun v h' N' => v = .slice (some ⟨rb, i * W, none⟩) W (L - i * W) ∧ h' = h ∧ N' = N) := by
  refine calls_of Ybaz.func32 rfl Ybaz.ntmps32 (Nat.le_of_ble_eq_true rfl) ?_
  have e1 : (i : Int) * W = ((i * W : Nat) : Int) := by simp
  have e2 : ((i : Int) + 1) * W = (((i + 1) * W : Nat) : Int) := by simp
  have e3 : (i + 1) * W = i * W + W := Nat.succ_mul i W
  have e4 : i ≤ i * W := Nat.le_mul_of_pos_right i hW
  refine c_seq ?_
  refine c_region (by kernel_rfl) ?_
  refine st_q (ok_assign (v := .slice _ _ _) rfl ⟨rfl, rfl, rfl⟩) ?_
  refine o_nil ?_
  refine n_then (c_seq ?_)
  refine c_draw mixed [] 19 rfl [((0, 2), [((1, 2), [((2, 2), [((3, 1), [((4, 2), [((5, 2), [((6, 2), [((7, 2), [((8, 1), [((9, 2), [((10, 2), [((11, 2), [((12, 2), [((13, 2), [((14, 2), [((15, 1), [((16, 2), [((17, 2), [((18, 2), ())])])])])])])])])])])])])])])])])])])] (by kernel_rfl) (by kernel_rfl) ?_
  refine w_p rfl (fun _ _ => ok_move (v := .pointer _) rfl ⟨rfl, rfl, rfl⟩) ?_
  refine w_p rfl (fun _ _ => ok_nilCheck_ptr rfl ⟨rfl, rfl, rfl⟩) ?_
  refine w_p rfl (fun _ _ => ok_fieldAddr (fld rfl) rfl ⟨rfl, rfl, rfl⟩) ?_
  refine w_r rfl (fun _ _ hExt => ok_load (ty rfl) rfl (hExt _ _ hb) hr ⟨rfl, rfl, rfl⟩) ?_
  refine w_p rfl (fun _ _ => ok_move (v := .int _ _) rfl ⟨rfl, rfl, rfl⟩) ?_
  refine w_p rfl (fun _ _ => ok_move (v := .pointer _) rfl ⟨rfl, rfl, rfl⟩) ?_
  refine w_p rfl (fun _ _ => ok_nilCheck_ptr rfl ⟨rfl, rfl, rfl⟩) ?_
  refine w_p rfl (fun _ _ => ok_fieldAddr (fld rfl) rfl ⟨rfl, rfl, rfl⟩) ?_
  refine w_r rfl (fun _ _ hExt => ok_load (ty rfl) rfl (hExt _ _ hb) hw ⟨rfl, rfl, rfl⟩) ?_
  refine w_p rfl (fun _ _ => ok_mul rfl rfl (by omega) (by omega) ⟨rfl, rfl, rfl⟩) ?_
  refine w_p rfl (fun _ _ => ok_move (v := .int _ _) rfl ⟨rfl, rfl, rfl⟩) ?_
  refine w_p rfl (fun _ _ => ok_add rfl rfl (by omega) (by omega) ⟨rfl, rfl, rfl⟩) ?_
  refine w_p rfl (fun _ _ => ok_move (v := .pointer _) rfl ⟨rfl, rfl, rfl⟩) ?_
  refine w_p rfl (fun _ _ => ok_nilCheck_ptr rfl ⟨rfl, rfl, rfl⟩) ?_
  refine w_p rfl (fun _ _ => ok_fieldAddr (fld rfl) rfl ⟨rfl, rfl, rfl⟩) ?_
  refine w_r rfl (fun _ _ hExt => ok_load (ty rfl) rfl (hExt _ _ hb) hw ⟨rfl, rfl, rfl⟩) ?_
  refine w_p rfl (fun _ _ => ok_mul rfl rfl (by omega) (by omega) ⟨rfl, rfl, rfl⟩) ?_
  refine w_p rfl (fun _ _ => ok_slice_lohi (sl rfl) (ty rfl) rfl rfl rfl (by omega) (by omega) (by omega) (o' := i * W) (n' := W) (c' := L - i * W) (by rw [if_neg (by omega)]; omega) (by omega) (by omega) ⟨rfl, rfl, rfl⟩) ?_
  refine w_p rfl (fun _ _ => ok_assign (v := .slice _ _ _) rfl ⟨rfl, rfl, rfl⟩) ?_
  refine w_nil ?_
  refine n_then (c_ret ?_)
  exact r_leave (leave_tmp rfl rfl ⟨rfl, rfl, rfl⟩)

theorem col_ok {h : Hp} {N bc oc rb W L : Nat} {cs : Array Value} {te : TypeId} {fz : Nat × Nat} {i : Nat} (hb : h bc = some (.cells cs te fz)) (hw : cs[oc]? = some (.int .i64 W)) (hr : cs[oc + 2]? = some (.slice (some ⟨rb, 0, none⟩) L L))
    (hi : (i + 1) * W ≤ L) (hW : 0 < W) (hL : L ≤ 1000000) :
    CallsX Ybaz.prog w0 37 #[.pointer (some ⟨bc, oc, none⟩), .int .i64 i] h N (fun v h' N' => v = .slice (some ⟨rb, i * W, none⟩) W (L - i * W) ∧ h' = h ∧ N' = N) := by
  refine calls_of Ybaz.func37 rfl Ybaz.ntmps37 (Nat.le_of_ble_eq_true rfl) ?_
  have e1 : (i : Int) * W = ((i * W : Nat) : Int) := by simp
  have e2 : ((i : Int) + 1) * W = (((i + 1) * W : Nat) : Int) := by simp
  have e3 : (i + 1) * W = i * W + W := Nat.succ_mul i W
  have e4 : i ≤ i * W := Nat.le_mul_of_pos_right i hW
  refine c_seq ?_
  refine c_region (by kernel_rfl) ?_
  refine st_q (ok_assign (v := .slice _ _ _) rfl ⟨rfl, rfl, rfl⟩) ?_
  refine o_nil ?_
  refine n_then (c_seq ?_)
  refine c_draw mixed [] 19 rfl [((0, 2), [((1, 2), [((2, 2), [((3, 1), [((4, 2), [((5, 2), [((6, 2), [((7, 2), [((8, 1), [((9, 2), [((10, 2), [((11, 2), [((12, 2), [((13, 2), [((14, 2), [((15, 1), [((16, 2), [((17, 2), [((18, 2), ())])])])])])])])])])])])])])])])])])])] (by kernel_rfl) (by kernel_rfl) ?_
  refine w_p rfl (fun _ _ => ok_move (v := .pointer _) rfl ⟨rfl, rfl, rfl⟩) ?_
  refine w_p rfl (fun _ _ => ok_nilCheck_ptr rfl ⟨rfl, rfl, rfl⟩) ?_
  refine w_p rfl (fun _ _ => ok_fieldAddr (fld rfl) rfl ⟨rfl, rfl, rfl⟩) ?_
  refine w_r rfl (fun _ _ hExt => ok_load (ty rfl) rfl (hExt _ _ hb) hr ⟨rfl, rfl, rfl⟩) ?_
  refine w_p rfl (fun _ _ => ok_move (v := .int _ _) rfl ⟨rfl, rfl, rfl⟩) ?_
  refine w_p rfl (fun _ _ => ok_move (v := .pointer _) rfl ⟨rfl, rfl, rfl⟩) ?_
  refine w_p rfl (fun _ _ => ok_nilCheck_ptr rfl ⟨rfl, rfl, rfl⟩) ?_
  refine w_p rfl (fun _ _ => ok_fieldAddr (fld rfl) rfl ⟨rfl, rfl, rfl⟩) ?_
  refine w_r rfl (fun _ _ hExt => ok_load (ty rfl) rfl (hExt _ _ hb) hw ⟨rfl, rfl, rfl⟩) ?_
  refine w_p rfl (fun _ _ => ok_mul rfl rfl (by omega) (by omega) ⟨rfl, rfl, rfl⟩) ?_
  refine w_p rfl (fun _ _ => ok_move (v := .int _ _) rfl ⟨rfl, rfl, rfl⟩) ?_
  refine w_p rfl (fun _ _ => ok_add rfl rfl (by omega) (by omega) ⟨rfl, rfl, rfl⟩) ?_
  refine w_p rfl (fun _ _ => ok_move (v := .pointer _) rfl ⟨rfl, rfl, rfl⟩) ?_
  refine w_p rfl (fun _ _ => ok_nilCheck_ptr rfl ⟨rfl, rfl, rfl⟩) ?_
  refine w_p rfl (fun _ _ => ok_fieldAddr (fld rfl) rfl ⟨rfl, rfl, rfl⟩) ?_
  refine w_r rfl (fun _ _ hExt => ok_load (ty rfl) rfl (hExt _ _ hb) hw ⟨rfl, rfl, rfl⟩) ?_
  refine w_p rfl (fun _ _ => ok_mul rfl rfl (by omega) (by omega) ⟨rfl, rfl, rfl⟩) ?_
  refine w_p rfl (fun _ _ => ok_slice_lohi (sl rfl) (ty rfl) rfl rfl rfl (by omega) (by omega) (by omega) (o' := i * W) (n' := W) (c' := L - i * W) (by rw [if_neg (by omega)]; omega) (by omega) (by omega) ⟨rfl, rfl, rfl⟩) ?_
  refine w_p rfl (fun _ _ => ok_assign (v := .slice _ _ _) rfl ⟨rfl, rfl, rfl⟩) ?_
  refine w_nil ?_
  refine n_then (c_ret ?_)
  exact r_leave (leave_tmp rfl rfl ⟨rfl, rfl, rfl⟩)

/-- fansAt of a graph that has no fan. -/
theorem fansAt_ok {h : Hp} {N : Nat} {g0 g1 g2 g4 iv : Value} {ah : Bool} :
    CallsX Ybaz.prog w0 66 #[.agg #[g0, g1, g2, .slice none 0 0, g4], iv, .bool ah] h N (fun v h' _ => v = .slice none 0 0 ∧ Ext h h') := by
  refine calls_of Ybaz.func66 rfl Ybaz.ntmps66 (Nat.le_of_ble_eq_true rfl) ?_
  refine c_seq ?_
  refine c_region (by kernel_rfl) ?_
  refine st (ok_box (v := .agg _) rfl rfl (fun hN3 => ?_))
  refine st_q (ok_assign (v := .slice _ _ _) rfl ⟨rfl, rfl, rfl⟩) ?_
  refine o_nil ?_
  have hb := hset_same h N (.cells #[g0, g1, g2, .slice none 0 0, g4] 39 (0, 0))
  refine n_then (c_seq (c_block (c_seq ?_)))
  refine c_region (by kernel_rfl) ?_
  refine st_q (ok_fieldAddr (fld rfl) rfl ⟨rfl, rfl, rfl⟩) ?_
  refine st_q (ok_load (ty rfl) rfl hb (by rfl) ⟨rfl, rfl, rfl⟩) ?_
  refine st_q (ok_eql_nil (sl rfl) rfl rfl ⟨rfl, rfl, rfl⟩) ?_
  refine st_q (ok_assign (v := .bool _) rfl ⟨rfl, rfl, rfl⟩) ?_
  refine o_nil ?_
  refine n_then ?_
  refine c_cond_true rfl (c_seq ?_)
  refine c_region (by kernel_rfl) ?_
  refine st_q (ok_assign (v := .slice _ _ _) rfl ⟨rfl, rfl, rfl⟩) ?_
  refine o_nil ?_
  refine n_then (c_ret ?_)
  exact r_leave (leave_tmp rfl rfl ⟨rfl, Ext.push hN3 _⟩)
end Sx
end Go.Proofs.YbulkcsqkGreatDoor
