import Derived.Test.YbulkcsqkGreatDoorSxLeaf4
namespace Go.Proofs.YbulkcsqkGreatDoor
namespace Sx
set_option maxRecDepth 10000
variable {w0 : World}

section
variable {h : Hp} {N br bpl n cp a b : Nat} {rc pl : Array Value} {te tp : TypeId} {fz fp : Nat × Nat}

/-- An edge that runs forward in the order 0 .. n-1 closes no cycle: the walk is not begun. -/
theorem closes_ok (hr : h br = some (.cells rc te fz)) (hpl : rc[0 + 51]? = some (.slice (some ⟨bpl, 0, none⟩) n cp)) (hp : h bpl = some (.cells pl tp fp)) (hv : ∀ i, i < n → pl[i]? = some (.int .i64 (i : Int))) (hab : a < b) (hb : b < n) (_hn : n ≤ 100000) :
    CallsX Ybaz.prog w0 40 #[.pointer (some ⟨br, 0, none⟩), .agg #[.int .i64 a, .int .i64 b]] h N (fun v h' _ => v = .bool false ∧ Ext h h') := by
  refine calls_of Ybaz.func40 rfl Ybaz.ntmps40 (Nat.le_of_ble_eq_true rfl) ?_
  refine c_seq ?_
  refine c_region (by kernel_rfl) ?_
  refine st (ok_box (v := .agg _) rfl rfl (fun hN3 => ?_))
  refine st_q (ok_assign (v := .bool _) rfl ⟨rfl, rfl, rfl⟩) ?_
  refine o_nil ?_
  have hx := Ext.push hN3 (.cells #[.int .i64 a, .int .i64 b] 74 (0, 0))
  have hr2 := hx _ _ hr
  have hp2 := hx _ _ hp
  have he := hset_same h N (.cells #[.int .i64 a, .int .i64 b] 74 (0, 0))
  refine n_then (c_seq (c_seq ?_))
  refine c_region (by kernel_rfl) ?_
  refine st_q (ok_fieldAddr (fld rfl) rfl ⟨rfl, rfl, rfl⟩) ?_
  refine st_q (ok_load (ty rfl) rfl he (by rfl) ⟨rfl, rfl, rfl⟩) ?_
  refine st_q (ok_fieldAddr (fld rfl) rfl ⟨rfl, rfl, rfl⟩) ?_
  refine st_q (ok_load (ty rfl) rfl he (by rfl) ⟨rfl, rfl, rfl⟩) ?_
  refine st_q (ok_eql_f rfl rfl ((by omega)) ⟨rfl, rfl, rfl⟩) ?_
  refine o_nil ?_
  refine n_then (c_cond_false rfl (c_skip (n_then (c_seq ?_))))
  refine c_draw mixed [] 18 rfl [((0, 2), [((1, 2), [((2, 2), [((3, 1), [((4, 2), [((5, 1), [((6, 2), [((7, 1), [((8, 2), [((9, 2), [((10, 2), [((11, 1), [((12, 2), [((13, 1), [((14, 2), [((15, 1), [((16, 2), [((17, 2), ())])])])])])])])])])])])])])])])])])] (by kernel_rfl) (by kernel_rfl) ?_
  refine w_p rfl (fun _ _ => ok_move (v := .pointer _) rfl ⟨rfl, rfl, rfl⟩) ?_
  refine w_p rfl (fun _ _ => ok_nilCheck_ptr rfl ⟨rfl, rfl, rfl⟩) ?_
  refine w_p rfl (fun _ _ => ok_fieldAddr (fld rfl) rfl ⟨rfl, rfl, rfl⟩) ?_
  refine w_r rfl (fun _ _ hExt => ok_load (ty rfl) rfl (hExt _ _ hr2) hpl ⟨rfl, rfl, rfl⟩) ?_
  refine w_p rfl (fun _ _ => ok_fieldAddr (fld rfl) rfl ⟨rfl, rfl, rfl⟩) ?_
  refine w_r rfl (fun _ _ hExt => ok_load (ty rfl) rfl (hExt _ _ he) (by rfl) ⟨rfl, rfl, rfl⟩) ?_
  refine w_p rfl (fun _ _ => ok_indexAddr (sl rfl) (ty rfl) rfl rfl (by omega) (by omega) (off := b) (by omega) ⟨rfl, rfl, rfl⟩) ?_
  refine w_r rfl (fun _ _ hExt => ok_load (ty rfl) rfl (hExt _ _ hp2) (hv b hb) ⟨rfl, rfl, rfl⟩) ?_
  refine w_p rfl (fun _ _ => ok_move (v := .pointer _) rfl ⟨rfl, rfl, rfl⟩) ?_
  refine w_p rfl (fun _ _ => ok_nilCheck_ptr rfl ⟨rfl, rfl, rfl⟩) ?_
  refine w_p rfl (fun _ _ => ok_fieldAddr (fld rfl) rfl ⟨rfl, rfl, rfl⟩) ?_
  refine w_r rfl (fun _ _ hExt => ok_load (ty rfl) rfl (hExt _ _ hr2) hpl ⟨rfl, rfl, rfl⟩) ?_
  refine w_p rfl (fun _ _ => ok_fieldAddr (fld rfl) rfl ⟨rfl, rfl, rfl⟩) ?_
  refine w_r rfl (fun _ _ hExt => ok_load (ty rfl) rfl (hExt _ _ he) (by rfl) ⟨rfl, rfl, rfl⟩) ?_
  refine w_p rfl (fun _ _ => ok_indexAddr (sl rfl) (ty rfl) rfl rfl (by omega) (by omega) (off := a) (by omega) ⟨rfl, rfl, rfl⟩) ?_
  refine w_r rfl (fun _ _ hExt => ok_load (ty rfl) rfl (hExt _ _ hp2) (hv a (by omega)) ⟨rfl, rfl, rfl⟩) ?_
  refine w_p rfl (fun _ _ => ok_assign (v := .int _ _) rfl ⟨rfl, rfl, rfl⟩) ?_
  refine w_p rfl (fun _ _ => ok_assign (v := .int _ _) rfl ⟨rfl, rfl, rfl⟩) ?_
  refine w_nil ?_
  refine n_then (c_seq (c_seq ?_))
  refine c_region (by kernel_rfl) ?_
  refine st_q (ok_move (v := .int _ _) rfl ⟨rfl, rfl, rfl⟩) ?_
  refine st_q (ok_move (v := .int _ _) rfl ⟨rfl, rfl, rfl⟩) ?_
  refine st_q (ok_gtr_t rfl rfl ((by omega)) ⟨rfl, rfl, rfl⟩) ?_
  refine o_nil ?_
  refine n_then (c_cond_true rfl (c_seq ?_))
  refine c_region (by kernel_rfl) ?_
  refine st_q (ok_assign (v := .bool _) rfl ⟨rfl, rfl, rfl⟩) ?_
  refine o_nil ?_
  refine n_then (c_ret (r_then ?_))
  exact r_leave (leave_tmp rfl rfl ⟨rfl, hx⟩)

theorem arrange_ok (hr : h br = some (.cells rc te fz)) (hpl : rc[0 + 51]? = some (.slice (some ⟨bpl, 0, none⟩) n cp)) (hp : h bpl = some (.cells pl tp fp)) (hv : ∀ i, i < n → pl[i]? = some (.int .i64 (i : Int))) (hab : a < b) (hb : b < n) (hn : n ≤ 100000) :
    CallsX Ybaz.prog w0 17 #[.pointer (some ⟨br, 0, none⟩), .agg #[.int .i64 a, .int .i64 b]] h N (fun v h' _ => v = .bool true ∧ Ext h h') := by
  refine calls_of Ybaz.func17 rfl Ybaz.ntmps17 (Nat.le_of_ble_eq_true rfl) ?_
  refine c_seq ?_
  refine c_region (by kernel_rfl) ?_
  refine st (ok_box (v := .pointer _) rfl rfl (fun hN2 => ?_))
  refine st (ok_box (v := .agg _) rfl rfl (fun hN3 => ?_))
  refine st_q (ok_assign (v := .bool _) rfl ⟨rfl, rfl, rfl⟩) ?_
  refine o_nil ?_
  refine n_then (c_seq (c_seq ?_))
  refine c_heap (fun h' _ => Ext h h' ∧ h' N = some (.cells #[.pointer (some ⟨br, 0, none⟩)] 26 (0, 0)) ∧ h' (N + 1) = some (.cells #[.int .i64 a, .int .i64 b] 74 (0, 0))) ⟨(Ext.push hN2 _).trans (Ext.push hN3 _), Ext.push hN3 _ _ _ (hset_same _ _ _), hset_same _ _ _⟩ ?_
  rintro h2 N2 ⟨hx, h0, he⟩
  have hr2 := hx _ _ hr
  have hp2 := hx _ _ hp
  refine c_region (by kernel_rfl) ?_
  refine st_q (ok_load (ty rfl) rfl h0 (by rfl) ⟨rfl, rfl, rfl⟩) ?_
  refine st_q (ok_loadAgg (ty rfl) rfl he (Nat.le_of_ble_eq_true rfl) rfl ⟨rfl, rfl, rfl⟩) ?_
  refine st (ok_call rfl ent40 (closes_ok hr2 hpl hp2 hv hab hb hn) rfl ?_)
  rintro _ h3 N3 ⟨rfl, hx3⟩
  refine o_nil ?_
  have h03 := hx3 _ _ h0
  have he3 := hx3 _ _ he
  have hr3 := hx3 _ _ hr2
  have hp3 := hx3 _ _ hp2
  refine n_then (c_cond_false rfl (c_skip (n_then (c_seq ?_))))
  refine c_draw mixed [] 18 rfl [((0, 1), [((1, 2), [((2, 2), [((3, 1), [((4, 2), [((5, 1), [((6, 2), [((7, 1), [((8, 1), [((9, 2), [((10, 2), [((11, 1), [((12, 2), [((13, 1), [((14, 2), [((15, 1), [((16, 2), [((17, 2), ())])])])])])])])])])])])])])])])])])] (by kernel_rfl) (by kernel_rfl) ?_
  refine w_r rfl (fun _ _ hExt => ok_load (ty rfl) rfl (hExt _ _ h03) (by rfl) ⟨rfl, rfl, rfl⟩) ?_
  refine w_p rfl (fun _ _ => ok_nilCheck_ptr rfl ⟨rfl, rfl, rfl⟩) ?_
  refine w_p rfl (fun _ _ => ok_fieldAddr (fld rfl) rfl ⟨rfl, rfl, rfl⟩) ?_
  refine w_r rfl (fun _ _ hExt => ok_load (ty rfl) rfl (hExt _ _ hr3) hpl ⟨rfl, rfl, rfl⟩) ?_
  refine w_p rfl (fun _ _ => ok_fieldAddr (fld rfl) rfl ⟨rfl, rfl, rfl⟩) ?_
  refine w_r rfl (fun _ _ hExt => ok_load (ty rfl) rfl (hExt _ _ he3) (by rfl) ⟨rfl, rfl, rfl⟩) ?_
  refine w_p rfl (fun _ _ => ok_indexAddr (sl rfl) (ty rfl) rfl rfl (by omega) (by omega) (off := b) (by omega) ⟨rfl, rfl, rfl⟩) ?_
  refine w_r rfl (fun _ _ hExt => ok_load (ty rfl) rfl (hExt _ _ hp3) (hv b hb) ⟨rfl, rfl, rfl⟩) ?_
  refine w_r rfl (fun _ _ hExt => ok_load (ty rfl) rfl (hExt _ _ h03) (by rfl) ⟨rfl, rfl, rfl⟩) ?_
  refine w_p rfl (fun _ _ => ok_nilCheck_ptr rfl ⟨rfl, rfl, rfl⟩) ?_
  refine w_p rfl (fun _ _ => ok_fieldAddr (fld rfl) rfl ⟨rfl, rfl, rfl⟩) ?_
  refine w_r rfl (fun _ _ hExt => ok_load (ty rfl) rfl (hExt _ _ hr3) hpl ⟨rfl, rfl, rfl⟩) ?_
  refine w_p rfl (fun _ _ => ok_fieldAddr (fld rfl) rfl ⟨rfl, rfl, rfl⟩) ?_
  refine w_r rfl (fun _ _ hExt => ok_load (ty rfl) rfl (hExt _ _ he3) (by rfl) ⟨rfl, rfl, rfl⟩) ?_
  refine w_p rfl (fun _ _ => ok_indexAddr (sl rfl) (ty rfl) rfl rfl (by omega) (by omega) (off := a) (by omega) ⟨rfl, rfl, rfl⟩) ?_
  refine w_r rfl (fun _ _ hExt => ok_load (ty rfl) rfl (hExt _ _ hp3) (hv a (by omega)) ⟨rfl, rfl, rfl⟩) ?_
  refine w_p rfl (fun _ _ => ok_assign (v := .int _ _) rfl ⟨rfl, rfl, rfl⟩) ?_
  refine w_p rfl (fun _ _ => ok_assign (v := .int _ _) rfl ⟨rfl, rfl, rfl⟩) ?_
  refine w_nil ?_
  refine n_then (c_seq (c_seq ?_))
  refine c_region (by kernel_rfl) ?_
  refine st_q (ok_move (v := .int _ _) rfl ⟨rfl, rfl, rfl⟩) ?_
  refine st_q (ok_move (v := .int _ _) rfl ⟨rfl, rfl, rfl⟩) ?_
  refine st_q (ok_gtr_t rfl rfl ((by omega)) ⟨rfl, rfl, rfl⟩) ?_
  refine o_nil ?_
  refine n_then (c_cond_true rfl (c_seq ?_))
  refine c_region (by kernel_rfl) ?_
  refine st_q (ok_assign (v := .bool _) rfl ⟨rfl, rfl, rfl⟩) ?_
  refine o_nil ?_
  refine n_then (c_ret (r_then ?_))
  exact r_leave (leave_tmp rfl rfl ⟨rfl, hx.trans hx3⟩)

theorem fit_ok (hr : h br = some (.cells rc te fz)) (hpl : rc[0 + 51]? = some (.slice (some ⟨bpl, 0, none⟩) n cp)) (hp : h bpl = some (.cells pl tp fp)) (hv : ∀ i, i < n → pl[i]? = some (.int .i64 (i : Int))) (hab : a < b) (hb : b < n) (hn : n ≤ 100000) :
    CallsX Ybaz.prog w0 7 #[.pointer (some ⟨br, 0, none⟩), .agg #[.int .i64 a, .int .i64 b]] h N (fun v h' _ => v = .tuple #[.slice none 0 0, .bool true] ∧ Ext h h') := by
  refine calls_of Ybaz.func7 rfl Ybaz.ntmps7 (Nat.le_of_ble_eq_true rfl) ?_
  refine c_seq ?_
  refine c_region (by kernel_rfl) ?_
  refine st (ok_box (v := .pointer _) rfl rfl (fun hN2 => ?_))
  refine st (ok_box (v := .agg _) rfl rfl (fun hN3 => ?_))
  refine st_q (ok_assign (v := .slice _ _ _) rfl ⟨rfl, rfl, rfl⟩) ?_
  refine st_q (ok_assign (v := .bool _) rfl ⟨rfl, rfl, rfl⟩) ?_
  refine o_nil ?_
  refine n_then (c_seq (c_seq ?_))
  refine c_heap (fun h' _ => Ext h h' ∧ h' N = some (.cells #[.pointer (some ⟨br, 0, none⟩)] 26 (0, 0)) ∧ h' (N + 1) = some (.cells #[.int .i64 a, .int .i64 b] 74 (0, 0))) ⟨(Ext.push hN2 _).trans (Ext.push hN3 _), Ext.push hN3 _ _ _ (hset_same _ _ _), hset_same _ _ _⟩ ?_
  rintro h2 N2 ⟨hx, h0, he⟩
  have hr2 := hx _ _ hr
  have hp2 := hx _ _ hp
  refine c_region (by kernel_rfl) ?_
  refine st_q (ok_load (ty rfl) rfl h0 (by rfl) ⟨rfl, rfl, rfl⟩) ?_
  refine st_q (ok_loadAgg (ty rfl) rfl he (Nat.le_of_ble_eq_true rfl) rfl ⟨rfl, rfl, rfl⟩) ?_
  refine st (ok_call rfl ent17 (arrange_ok hr2 hpl hp2 hv hab hb hn) rfl ?_)
  rintro _ h3 N3 ⟨rfl, hx3⟩
  refine o_nil ?_
  refine n_then (c_cond_true rfl (c_seq ?_))
  refine c_region (by kernel_rfl) ?_
  refine st_q (ok_assign (v := .slice _ _ _) rfl ⟨rfl, rfl, rfl⟩) ?_
  refine st_q (ok_assign (v := .bool _) rfl ⟨rfl, rfl, rfl⟩) ?_
  refine o_nil ?_
  refine n_then (c_ret (r_then ?_))
  exact r_leave (leave_tmp2 rfl rfl rfl ⟨rfl, hx.trans hx3⟩)
end
end Sx
end Go.Proofs.YbulkcsqkGreatDoor
