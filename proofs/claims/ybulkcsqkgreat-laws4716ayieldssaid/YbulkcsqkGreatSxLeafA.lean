import Derived.Test.YbulkcsqkGreatSxSep
namespace Go.Proofs.YbulkcsqkGreat
namespace Sx
set_option maxRecDepth 10000
variable {w0 : World}

theorem row_ok {h : Hp} {N bc oc rb W L : Nat} {cs : Array Value} {te : TypeId} {fz : Nat × Nat} {i : Nat} (hb : h bc = some (.cells cs te fz)) (hw : cs[oc]? = some (.int .i64 W)) (hr : cs[oc + 1]? = some (.slice (some ⟨rb, 0, none⟩) L L))
    (hi : (i + 1) * W ≤ L) (hW : 0 < W) (hL : L ≤ 1000000) :
    CallsX Ybaz.prog w0 15 #[.pointer (some ⟨bc, oc, none⟩), .int .i64 i] h N (fun v h' N' => v = .slice (some ⟨rb, i * W, none⟩) W (L - i * W) ∧ h' = h ∧ N' = N) := by
  refine calls_of Ybaz.func15 rfl Ybaz.ntmps15 (Nat.le_of_ble_eq_true rfl) ?_
  have e1 : (i : Int) * W = ((i * W : Nat) : Int) := by simp
  have e2 : ((i : Int) + 1) * W = (((i + 1) * W : Nat) : Int) := by simp
  have e3 : (i + 1) * W = i * W + W := Nat.succ_mul i W
  have e4 : i ≤ i * W := Nat.le_mul_of_pos_right i hW
  refine c_seq ?_
  refine c_region (by kernel_rfl) ?_
  refine st_q (ok_assign (v := .slice _ _ _) rfl ⟨rfl, rfl, rfl⟩) ?_
  refine o_nil ?_
  refine n_then (c_seq ?_)
  refine c_draw mixed [] 19 rfl [((0, 2), [((1, 2), [((2, 2), [((3, 1), [((4, 2), [((5, 2), [((6, 2), [((7, 2), [((8, 1), [((9, 2), [((10, 2), [((11, 2), [((12, 2), [((13, 2), [((14, 2), [((15, 1), [((16, 2), [((17, 2), [((18, 2), ())])])])])])])])])])])])])])])])])])])] (by kernel_rfl) (by kernel_rfl) ?_
  refine w_p rfl (fun _ _ => ok_move (v := .pointer _) rfl ⟨rfl, rfl, rfl⟩) ?_
  refine w_p rfl (fun _ _ => ok_nilCheck_ptr rfl ⟨rfl, rfl, rfl⟩) ?_
  refine w_p rfl (fun _ _ => ok_fieldAddr (fld rfl) rfl ⟨rfl, rfl, rfl⟩) ?_
  refine w_r rfl (fun _ _ hExt => ok_load (ty rfl) rfl (hExt _ _ hb) hr ⟨rfl, rfl, rfl⟩) ?_
  refine w_p rfl (fun _ _ => ok_move (v := .int _ _) rfl ⟨rfl, rfl, rfl⟩) ?_
  refine w_p rfl (fun _ _ => ok_move (v := .pointer _) rfl ⟨rfl, rfl, rfl⟩) ?_
  refine w_p rfl (fun _ _ => ok_nilCheck_ptr rfl ⟨rfl, rfl, rfl⟩) ?_
  refine w_p rfl (fun _ _ => ok_fieldAddr (fld rfl) rfl ⟨rfl, rfl, rfl⟩) ?_
  refine w_r rfl (fun _ _ hExt => ok_load (ty rfl) rfl (hExt _ _ hb) hw ⟨rfl, rfl, rfl⟩) ?_
  refine w_p rfl (fun _ _ => ok_mul rfl rfl (by omega) (by omega) ⟨rfl, rfl, rfl⟩) ?_
  refine w_p rfl (fun _ _ => ok_move (v := .int _ _) rfl ⟨rfl, rfl, rfl⟩) ?_
  refine w_p rfl (fun _ _ => ok_add rfl rfl (by omega) (by omega) ⟨rfl, rfl, rfl⟩) ?_
  refine w_p rfl (fun _ _ => ok_move (v := .pointer _) rfl ⟨rfl, rfl, rfl⟩) ?_
  refine w_p rfl (fun _ _ => ok_nilCheck_ptr rfl ⟨rfl, rfl, rfl⟩) ?_
  refine w_p rfl (fun _ _ => ok_fieldAddr (fld rfl) rfl ⟨rfl, rfl, rfl⟩) ?_
  refine w_r rfl (fun _ _ hExt => ok_load (ty rfl) rfl (hExt _ _ hb) hw ⟨rfl, rfl, rfl⟩) ?_
  refine w_p rfl (fun _ _ => ok_mul rfl rfl (by omega) (by omega) ⟨rfl, rfl, rfl⟩) ?_
  refine w_p rfl (fun _ _ => ok_slice_lohi (sl rfl) (ty rfl) rfl rfl rfl (by omega) (by omega) (by omega) (o' := i * W) (n' := W) (c' := L - i * W) (by rw [if_neg (by omega)]; omega) (by omega) (by omega) ⟨rfl, rfl, rfl⟩) ?_
  refine w_p rfl (fun _ _ => ok_assign (v := .slice _ _ _) rfl ⟨rfl, rfl, rfl⟩) ?_
  refine w_nil ?_
  refine n_then (c_ret ?_)
  exact r_leave (leave_tmp rfl rfl ⟨rfl, rfl, rfl⟩)


theorem col_ok {h : Hp} {N bc oc rb W L : Nat} {cs : Array Value} {te : TypeId} {fz : Nat × Nat} {i : Nat} (hb : h bc = some (.cells cs te fz)) (hw : cs[oc]? = some (.int .i64 W)) (hr : cs[oc + 2]? = some (.slice (some ⟨rb, 0, none⟩) L L))
    (hi : (i + 1) * W ≤ L) (hW : 0 < W) (hL : L ≤ 1000000) :
    CallsX Ybaz.prog w0 14 #[.pointer (some ⟨bc, oc, none⟩), .int .i64 i] h N (fun v h' N' => v = .slice (some ⟨rb, i * W, none⟩) W (L - i * W) ∧ h' = h ∧ N' = N) := by
  refine calls_of Ybaz.func14 rfl Ybaz.ntmps14 (Nat.le_of_ble_eq_true rfl) ?_
  have e1 : (i : Int) * W = ((i * W : Nat) : Int) := by simp
  have e2 : ((i : Int) + 1) * W = (((i + 1) * W : Nat) : Int) := by simp
  have e3 : (i + 1) * W = i * W + W := Nat.succ_mul i W
  have e4 : i ≤ i * W := Nat.le_mul_of_pos_right i hW
  refine c_seq ?_
  refine c_region (by kernel_rfl) ?_
  refine st_q (ok_assign (v := .slice _ _ _) rfl ⟨rfl, rfl, rfl⟩) ?_
  refine o_nil ?_
  refine n_then (c_seq ?_)
  refine c_draw mixed [] 19 rfl [((0, 2), [((1, 2), [((2, 2), [((3, 1), [((4, 2), [((5, 2), [((6, 2), [((7, 2), [((8, 1), [((9, 2), [((10, 2), [((11, 2), [((12, 2), [((13, 2), [((14, 2), [((15, 1), [((16, 2), [((17, 2), [((18, 2), ())])])])])])])])])])])])])])])])])])])] (by kernel_rfl) (by kernel_rfl) ?_
  refine w_p rfl (fun _ _ => ok_move (v := .pointer _) rfl ⟨rfl, rfl, rfl⟩) ?_
  refine w_p rfl (fun _ _ => ok_nilCheck_ptr rfl ⟨rfl, rfl, rfl⟩) ?_
  refine w_p rfl (fun _ _ => ok_fieldAddr (fld rfl) rfl ⟨rfl, rfl, rfl⟩) ?_
  refine w_r rfl (fun _ _ hExt => ok_load (ty rfl) rfl (hExt _ _ hb) hr ⟨rfl, rfl, rfl⟩) ?_
  refine w_p rfl (fun _ _ => ok_move (v := .int _ _) rfl ⟨rfl, rfl, rfl⟩) ?_
  refine w_p rfl (fun _ _ => ok_move (v := .pointer _) rfl ⟨rfl, rfl, rfl⟩) ?_
  refine w_p rfl (fun _ _ => ok_nilCheck_ptr rfl ⟨rfl, rfl, rfl⟩) ?_
  refine w_p rfl (fun _ _ => ok_fieldAddr (fld rfl) rfl ⟨rfl, rfl, rfl⟩) ?_
  refine w_r rfl (fun _ _ hExt => ok_load (ty rfl) rfl (hExt _ _ hb) hw ⟨rfl, rfl, rfl⟩) ?_
  refine w_p rfl (fun _ _ => ok_mul rfl rfl (by omega) (by omega) ⟨rfl, rfl, rfl⟩) ?_
  refine w_p rfl (fun _ _ => ok_move (v := .int _ _) rfl ⟨rfl, rfl, rfl⟩) ?_
  refine w_p rfl (fun _ _ => ok_add rfl rfl (by omega) (by omega) ⟨rfl, rfl, rfl⟩) ?_
  refine w_p rfl (fun _ _ => ok_move (v := .pointer _) rfl ⟨rfl, rfl, rfl⟩) ?_
  refine w_p rfl (fun _ _ => ok_nilCheck_ptr rfl ⟨rfl, rfl, rfl⟩) ?_
  refine w_p rfl (fun _ _ => ok_fieldAddr (fld rfl) rfl ⟨rfl, rfl, rfl⟩) ?_
  refine w_r rfl (fun _ _ hExt => ok_load (ty rfl) rfl (hExt _ _ hb) hw ⟨rfl, rfl, rfl⟩) ?_
  refine w_p rfl (fun _ _ => ok_mul rfl rfl (by omega) (by omega) ⟨rfl, rfl, rfl⟩) ?_
  refine w_p rfl (fun _ _ => ok_slice_lohi (sl rfl) (ty rfl) rfl rfl rfl (by omega) (by omega) (by omega) (o' := i * W) (n' := W) (c' := L - i * W) (by rw [if_neg (by omega)]; omega) (by omega) (by omega) ⟨rfl, rfl, rfl⟩) ?_
  refine w_p rfl (fun _ _ => ok_assign (v := .slice _ _ _) rfl ⟨rfl, rfl, rfl⟩) ?_
  refine w_nil ?_
  refine n_then (c_ret ?_)
  exact r_leave (leave_tmp rfl rfl ⟨rfl, rfl, rfl⟩)


theorem fansAt_ok {h : Hp} {N : Nat} {g0 g1 g2 g4 iv : Value} {ah : Bool} :
    CallsX Ybaz.prog w0 42 #[.agg #[g0, g1, g2, .slice none 0 0, g4], iv, .bool ah] h N (fun v h' _ => v = .slice none 0 0 ∧ Ext h h') := by
  refine calls_of Ybaz.func42 rfl Ybaz.ntmps42 (Nat.le_of_ble_eq_true rfl) ?_
  refine c_seq ?_
  refine c_region (by kernel_rfl) ?_
  refine st (ok_box (v := .agg _) rfl rfl (fun hN3 => ?_))
  refine st_q (ok_assign (v := .slice _ _ _) rfl ⟨rfl, rfl, rfl⟩) ?_
  refine o_nil ?_
  have hb := hset_same h N (.cells #[g0, g1, g2, .slice none 0 0, g4] 69 (0, 0))
  refine n_then (c_seq (c_block (c_seq ?_)))
  refine c_region (by kernel_rfl) ?_
  refine st_q (ok_fieldAddr (fld rfl) rfl ⟨rfl, rfl, rfl⟩) ?_
  refine st_q (ok_load (ty rfl) rfl hb (by rfl) ⟨rfl, rfl, rfl⟩) ?_
  refine st_q (ok_eql_nil (sl rfl) rfl rfl ⟨rfl, rfl, rfl⟩) ?_
  refine st_q (ok_assign (v := .bool _) rfl ⟨rfl, rfl, rfl⟩) ?_
  refine o_nil ?_
  refine n_then ?_
  refine c_cond_true rfl (c_seq ?_)
  refine c_region (by kernel_rfl) ?_
  refine st_q (ok_assign (v := .slice _ _ _) rfl ⟨rfl, rfl, rfl⟩) ?_
  refine o_nil ?_
  refine n_then (c_ret ?_)
  exact r_leave (leave_tmp rfl rfl ⟨rfl, Ext.push hN3 _⟩)

theorem fuAdd_ok {h : Hp} {N bu : Nat} {g0 g1 g2 g4 f6 f7 f8 f9 bv : Value} {ah : Bool} {te : TypeId} {fz : Nat × Nat} {i : Int} (hb : h bu = some (.cells #[g0, g1, g2, .slice none 0 0, g4, .bool ah, f6, f7, f8, f9] te fz)) :
    CallsX Ybaz.prog w0 30 #[.pointer (some ⟨bu, 0, none⟩), bv, .int .i64 i] h N (fun v h' _ => v = .tuple #[] ∧ Ext h h') := by
  refine calls_of Ybaz.func30 rfl Ybaz.ntmps30 (Nat.le_of_ble_eq_true rfl) ?_
  refine c_seq ?_
  refine c_draw mixed [0, 0, 0, 0, 0, 0, 0, 0, 0, 2] 12 rfl [((0, 2), [((1, 2), [((2, 2), [((3, 1), [((4, 2), [((5, 2), [((6, 2), [((7, 2), [((8, 1), [((11, 2), [((9, 0), [((10, 2), ())])])])])])])])])])])])] (by kernel_rfl) (by kernel_rfl) ?_
  refine w_p rfl (fun _ _ => ok_move (v := .pointer _) rfl ⟨rfl, rfl, rfl⟩) ?_
  refine w_p rfl (fun _ _ => ok_nilCheck_ptr rfl ⟨rfl, rfl, rfl⟩) ?_
  refine w_p rfl (fun _ _ => ok_fieldAddr (fld rfl) rfl ⟨rfl, rfl, rfl⟩) ?_
  refine w_r rfl (fun _ _ hExt => ok_loadAgg (ty rfl) rfl (hExt _ _ hb) (Nat.le_of_ble_eq_true rfl) rfl ⟨rfl, rfl, rfl⟩) ?_
  refine w_p rfl (fun _ _ => ok_move (v := .int _ _) rfl ⟨rfl, rfl, rfl⟩) ?_
  refine w_p rfl (fun _ _ => ok_move (v := .pointer _) rfl ⟨rfl, rfl, rfl⟩) ?_
  refine w_p rfl (fun _ _ => ok_nilCheck_ptr rfl ⟨rfl, rfl, rfl⟩) ?_
  refine w_p rfl (fun _ _ => ok_fieldAddr (fld rfl) rfl ⟨rfl, rfl, rfl⟩) ?_
  refine w_r rfl (fun _ _ hExt => ok_load (ty rfl) rfl (hExt _ _ hb) (by rfl) ⟨rfl, rfl, rfl⟩) ?_
  refine w_p rfl (fun _ _ => ok_move (v := .int _ _) rfl ⟨rfl, rfl, rfl⟩) ?_
  refine w_e rfl (ok_call rfl ent42 (fansAt_ok) rfl ?_)
  rintro _ h1 N1 ⟨rfl, hx1⟩
  refine ⟨trivial, ?_⟩
  refine w_p rfl (fun _ _ => ok_len (sl rfl) rfl ⟨rfl, rfl, rfl⟩) ?_
  refine w_nil ?_
  refine n_then (c_block (c_loop1 (c_seq ?_)))
  refine c_region (by kernel_rfl) ?_
  refine st_q (ok_lss rfl rfl ⟨rfl, rfl, rfl⟩) ?_
  refine o_nil ?_
  refine n_then (c_seq (c_cond_false rfl (c_exit ?_)))
  refine x_then (x_then (x_block ?_))
  exact n_leave (leave_none rfl ⟨rfl, hx1⟩)


theorem newFanUnion_ok {h : Hp} {N : Nat} {a0 a1 : Option Addr} {n0 c0 n1 c1 : Nat} {ah : Bool} {fn fn' : Fn} {f1 f2 f3 f4 : Array Value} :
    CallsX Ybaz.prog w0 28 #[.agg #[.slice a0 n0 c0, .slice a1 n1 c1, .slice none 0 0, .slice none 0 0, .slice none 0 0], .bool ah, .func fn f1 f2, .func fn' f3 f4] h N
      (fun v h' _ => Ext h h' ∧ ∃ b1 b2, v = .agg #[.slice a0 n0 c0, .slice a1 n1 c1, .slice none 0 0, .slice none 0 0, .slice none 0 0, .bool ah, .func fn f1 f2, .func fn' f3 f4, .slice (some ⟨b1, 0, none⟩) 0 0, .slice (some ⟨b2, 0, none⟩) 0 0]) := by
  refine calls_of Ybaz.func28 rfl Ybaz.ntmps28 (Nat.le_of_ble_eq_true rfl) ?_
  refine c_seq ?_
  refine c_region (by kernel_rfl) ?_
  refine st (ok_box (v := .agg _) rfl rfl (fun hN4 => ?_))
  refine st (ok_alloc (ty rfl) rfl (fun hN8 => ?_))
  refine o_nil ?_
  refine n_then (c_seq ?_)
  refine c_heap (fun h' N' => Ext h h' ∧ h' N = some (.cells #[.slice a0 n0 c0, .slice a1 n1 c1, .slice none 0 0, .slice none 0 0, .slice none 0 0] 69 (0, 0)) ∧ h' (N + 1) = some (.cells #[.slice none 0 0, .slice none 0 0, .slice none 0 0, .slice none 0 0, .slice none 0 0, .bool false, .nilFunc, .nilFunc, .slice none 0 0, .slice none 0 0] 105 (0, 0)) ∧ h (N + 1) = none)
    ⟨(Ext.push hN4 _).trans (Ext.push hN8 _), Ext.push hN8 _ _ _ (hset_same _ _ _), hset_same _ _ _, hN4 _ (by omega)⟩ ?_
  rintro h2 N2 ⟨hx2, hb, hd, hn1⟩
  refine c_cut (fun E h' N' D => Fr E [(8, .pointer (some ⟨N + 1, 0, none⟩))] ∧ D = [] ∧ Ext h h' ∧ ∃ b1 b2, h' (N + 1) = some (.cells #[.slice a0 n0 c0, .slice a1 n1 c1, .slice none 0 0, .slice none 0 0, .slice none 0 0, .bool ah, .func fn f1 f2, .func fn' f3 f4, .slice (some ⟨b1, 0, none⟩) 0 0, .slice (some ⟨b2, 0, none⟩) 0 0] 105 (0, 0))) ?_ ?_
  · skip
    refine c_draw mixed [0, 0, 0, 0, 0, 0, 0, 1, 0, 0, 0, 1, 0, 2] 14 rfl [((0, 1), [((1, 2), [((2, 2), [((3, 2), [((4, 2), [((5, 1), [((6, 2), [((8, 2), [((9, 1), [((10, 2), [((7, 0), [((11, 0), [((12, 2), [((13, 0), ())])])]), ((11, 0), [((7, 0), [((12, 2), [((13, 0), ())])])])])])])])])])])])])])] (by kernel_rfl) (by kernel_rfl) ?_
    refine w_r rfl (fun _ _ hExt => ok_loadAgg (ty rfl) rfl (hExt _ _ hb) (Nat.le_of_ble_eq_true rfl) rfl ⟨rfl, rfl, rfl⟩) ?_
    refine w_p rfl (fun _ _ => ok_move (v := .bool _) rfl ⟨rfl, rfl, rfl⟩) ?_
    refine w_p rfl (fun _ _ => ok_move (v := .func _ _ _) rfl ⟨rfl, rfl, rfl⟩) ?_
    refine w_p rfl (fun _ _ => ok_move (v := .func _ _ _) rfl ⟨rfl, rfl, rfl⟩) ?_
    refine w_p rfl (fun _ _ => ok_fieldAddr (fld rfl) rfl ⟨rfl, rfl, rfl⟩) ?_
    refine w_r rfl (fun _ _ hExt => ok_load (ty rfl) rfl (hExt _ _ hb) (by rfl) ⟨rfl, rfl, rfl⟩) ?_
    refine w_p rfl (fun _ _ => ok_len (sl rfl) rfl ⟨rfl, rfl, rfl⟩) ?_
    refine w_p rfl (fun _ _ => ok_fieldAddr (fld rfl) rfl ⟨rfl, rfl, rfl⟩) ?_
    refine w_r rfl (fun _ _ hExt => ok_load (ty rfl) rfl (hExt _ _ hb) (by rfl) ⟨rfl, rfl, rfl⟩) ?_
    refine w_p rfl (fun _ _ => ok_len (sl rfl) rfl ⟨rfl, rfl, rfl⟩) ?_
    refine w_cons ?_ (w_cons ?_ (w_none))
    · skip
      refine w_e rfl (ok_makeSlice (sl rfl) (ty rfl) rfl rfl (by omega) (by omega) (by omega) (by omega) (l' := 0) (c' := 0) (by omega) (by omega) (fun hN16 => ⟨.inr ⟨_, rfl, rfl⟩, ?_⟩))
      refine w_e rfl (ok_makeSlice (sl rfl) (ty rfl) rfl rfl (by omega) (by omega) (by omega) (by omega) (l' := 0) (c' := 0) (by omega) (by omega) (fun hN20 => ⟨.inr ⟨_, rfl, rfl⟩, ?_⟩))
      refine w_p rfl (fun _ _ => ok_build rfl (v := .agg #[.slice a0 n0 c0, .slice a1 n1 c1, .slice none 0 0, .slice none 0 0, .slice none 0 0, .bool ah, .func fn f1 f2, .func fn' f3 f4, .slice (some ⟨N2, 0, none⟩) 0 0, .slice (some ⟨N2 + 1, 0, none⟩) 0 0]) (fun _ => by kernel_rfl) ⟨rfl, rfl, rfl⟩) ?_
      refine w_e0 rfl (ok_storeL (ty rfl) rfl (v := .agg _) rfl rfl rfl rfl (by first | exact Ext.push hN20 _ _ _ (Ext.push hN16 _ _ _ hd) | exact Ext.push hN16 _ _ _ (Ext.push hN20 _ _ _ hd)) (Nat.le_of_ble_eq_true rfl) ⟨trivial, ?_⟩)
      refine w_nil ?_
      refine n_then ⟨⟨rfl, trivial⟩, rfl, Ext.fresh (by first | exact (hx2.trans (Ext.push hN16 _)).trans (Ext.push hN20 _) | exact (hx2.trans (Ext.push hN20 _)).trans (Ext.push hN16 _)) hn1 _, _, _, hset_same _ _ _⟩
    · skip
      refine w_e rfl (ok_makeSlice (sl rfl) (ty rfl) rfl rfl (by omega) (by omega) (by omega) (by omega) (l' := 0) (c' := 0) (by omega) (by omega) (fun hN20 => ⟨.inr ⟨_, rfl, rfl⟩, ?_⟩))
      refine w_e rfl (ok_makeSlice (sl rfl) (ty rfl) rfl rfl (by omega) (by omega) (by omega) (by omega) (l' := 0) (c' := 0) (by omega) (by omega) (fun hN16 => ⟨.inr ⟨_, rfl, rfl⟩, ?_⟩))
      refine w_p rfl (fun _ _ => ok_build rfl (v := .agg #[.slice a0 n0 c0, .slice a1 n1 c1, .slice none 0 0, .slice none 0 0, .slice none 0 0, .bool ah, .func fn f1 f2, .func fn' f3 f4, .slice (some ⟨N2 + 1, 0, none⟩) 0 0, .slice (some ⟨N2, 0, none⟩) 0 0]) (fun _ => by kernel_rfl) ⟨rfl, rfl, rfl⟩) ?_
      refine w_e0 rfl (ok_storeL (ty rfl) rfl (v := .agg _) rfl rfl rfl rfl (by first | exact Ext.push hN20 _ _ _ (Ext.push hN16 _ _ _ hd) | exact Ext.push hN16 _ _ _ (Ext.push hN20 _ _ _ hd)) (Nat.le_of_ble_eq_true rfl) ⟨trivial, ?_⟩)
      refine w_nil ?_
      refine n_then ⟨⟨rfl, trivial⟩, rfl, Ext.fresh (by first | exact (hx2.trans (Ext.push hN16 _)).trans (Ext.push hN20 _) | exact (hx2.trans (Ext.push hN20 _)).trans (Ext.push hN16 _)) hn1 _, _, _, hset_same _ _ _⟩
  · rintro E h' N' D ⟨⟨hE, _⟩, rfl, hx3, b1, b2, hb3⟩
    refine n_then (c_ret ?_)
    exact r_leave (leave_cell rfl (ty rfl) hE hb3 (Nat.le_of_ble_eq_true rfl) rfl ⟨hx3, b1, b2, rfl⟩)


theorem backward_ok {h : Hp} {N : Nat} {ao : Option Addr} {n c : Nat} :
    CallsX Ybaz.prog w0 29 #[.slice ao n c] h N (fun v h' N' => v = .func (.func 51) #[] #[.pointer (some ⟨N, 0, none⟩)] ∧ h' = hset h N (.cells #[.slice ao n c] 34 (0, 0)) ∧ N' = N + 1 ∧ ∀ b, N ≤ b → h b = none) := by
  refine calls_of Ybaz.func29 rfl Ybaz.ntmps29 (Nat.le_of_ble_eq_true rfl) ?_
  refine c_seq ?_
  refine c_region (by kernel_rfl) ?_
  refine st (ok_box (v := .slice _ _ _) rfl rfl (fun hN1 => ?_))
  refine st_q (ok_assign (v := .nilFunc) rfl ⟨rfl, rfl, rfl⟩) ?_
  refine o_nil ?_
  refine n_then (c_seq ?_)
  refine c_region (by kernel_rfl) ?_
  refine st_q (ok_makeFunc rfl rfl ⟨rfl, rfl, rfl⟩) ?_
  refine st_q (ok_assign (v := .func _ _ _) rfl ⟨rfl, rfl, rfl⟩) ?_
  refine o_nil ?_
  refine n_then (c_ret ?_)
  exact r_leave (leave_tmp rfl rfl ⟨rfl, rfl, rfl, hN1⟩)


theorem backIter_ok {h : Hp} {N l bb ob n c : Nat} {xs : Array Value} {J : Nat → Hp → Nat → Prop} {Jx : Hp → Nat → Prop} {te : TypeId} {fz : Nat × Nat} (f : Nat → Int) (hn : n ≤ 1000000)
    (hJ : ∀ j h N, J j h N → (h bb = some (.cells #[.slice (some ⟨ob, 0, none⟩) n c] 34 (0, 0)) ∧ h ob = some (.cells xs te fz))) (hxs : ∀ j, j < n → xs[j]? = some (.int .i64 (f j)))
    (hY : ∀ j h N, j < n → J (j + 1) h N → YieldsTo Ybaz.prog w0 l [.int .i64 j, .int .i64 (f j)] h N (fun b h' N' => (b = true ∧ J j h' N') ∨ (b = false ∧ Jx h' N'))) (h0 : J n h N) :
    CallsX Ybaz.prog w0 51 #[.func (.yield l) #[] #[], .pointer (some ⟨bb, 0, none⟩)] h N (fun _ h' N' => J 0 h' N' ∨ Jx h' N') := by
  refine calls_of Ybaz.func51 rfl Ybaz.ntmps51 (Nat.le_of_ble_eq_true rfl) ?_
  obtain ⟨hb, _⟩ := hJ _ _ _ h0
  refine c_seq ?_
  refine c_region (by kernel_rfl) ?_
  refine st_q (ok_load (ty rfl) rfl hb (by rfl) ⟨rfl, rfl, rfl⟩) ?_
  refine st_q (ok_len (sl rfl) rfl ⟨rfl, rfl, rfl⟩) ?_
  refine st_q (ok_sub rfl rfl (by omega) (by omega) ⟨rfl, rfl, rfl⟩) ?_
  refine st_q (ok_assign (v := .int _ _) rfl ⟨rfl, rfl, rfl⟩) ?_
  refine o_nil ?_
  refine n_then (c_block ?_)
  refine c_loop (fun k E h N D => D = [] ∧ k ≤ n ∧ J k h N ∧ Fr E [(0, .func (.yield l) #[] #[]), (1, .pointer (some ⟨bb, 0, none⟩)), (3, .int .i64 ((k : Int) - 1))]) (k := n) ⟨rfl, Nat.le_refl _, h0, rfl, rfl, rfl, trivial⟩ ?_
  rintro k E h N D ⟨rfl, hk, hJk, hE⟩
  obtain ⟨E0, rfl⟩ := hE.ex
  obtain ⟨hb, hxs2⟩ := hJ _ _ _ hJk
  refine c_seq (c_seq ?_)
  refine c_region (by kernel_rfl) ?_
  refine st_q (ok_move (v := .int _ _) rfl ⟨rfl, rfl, rfl⟩) ?_
  refine st_q (ok_geq rfl rfl ⟨rfl, rfl, rfl⟩) ?_
  refine o_nil ?_
  refine n_then ?_
  refine c_cond_prop rfl (fun hc => ?_) (fun hc => ?_)
  · obtain ⟨j, rfl⟩ : ∃ j, k = j + 1 := ⟨k - 1, by omega⟩
    have hj : j < n := by omega
    rw [show (((j + 1 : Nat) : Int) - 1) = (j : Int) from by omega]
    refine c_skip (n_then (c_seq (c_block (c_seq ?_))))
    refine c_region (by kernel_rfl) ?_
    refine st_q (ok_move (v := .func _ _ _) rfl ⟨rfl, rfl, rfl⟩) ?_
    refine st_q (ok_move (v := .int _ _) rfl ⟨rfl, rfl, rfl⟩) ?_
    refine st_q (ok_load (ty rfl) rfl hb (by rfl) ⟨rfl, rfl, rfl⟩) ?_
    refine st_q (ok_move (v := .int _ _) rfl ⟨rfl, rfl, rfl⟩) ?_
    refine st_q (ok_indexAddr (sl rfl) (ty rfl) rfl rfl (by omega) (by omega) (off := j) (by omega) ⟨rfl, rfl, rfl⟩) ?_
    refine st_q (ok_load (ty rfl) rfl hxs2 (hxs j hj) ⟨rfl, rfl, rfl⟩) ?_
    refine st (ok_yield rfl (hY j _ _ hj hJk) rfl ?_)
    rintro b h2 N2 (⟨rfl, hJ2⟩ | ⟨rfl, hJ2⟩)
    · refine st_q (ok_not rfl ⟨rfl, rfl, rfl⟩) (o_nil ?_)
      refine n_then (c_cond_false rfl (c_skip (n_block (n_then ?_))))
      refine c_region (by kernel_rfl) ?_
      refine st_q (ok_move (v := .int _ _) rfl ⟨rfl, rfl, rfl⟩) ?_
      refine st_q (ok_sub rfl rfl (by omega) (by omega) ⟨rfl, rfl, rfl⟩) ?_
      refine st_q (ok_assign (v := .int _ _) rfl ⟨rfl, rfl, rfl⟩) ?_
      refine o_nil ?_
      refine n_then ⟨j, by omega, rfl, by omega, hJ2, rfl, rfl, rfl, trivial⟩
    · refine st_q (ok_not rfl ⟨rfl, rfl, rfl⟩) (o_nil ?_)
      refine n_then (c_cond_true rfl (c_ret (r_block (r_then (r_then (r_block ?_))))))
      exact r_leave (leave_none rfl (.inr hJ2))
  · refine c_exit (x_then (x_then (x_block ?_)))
    have : k = 0 := by omega
    subst this
    exact n_leave (leave_none rfl (.inl hJk))

/-- Compact of a row in which nothing stands twice. -/
theorem compact_ok {h : Hp} {N : Nat} {v : Value} {xs : List Nat} (ho : Own h 3 1 v (ints xs)) (hnd : xs.Nodup) (hl : xs.length ≤ 1000) :
    CallsX Ybaz.prog w0 19 #[v] h N (fun u h' N' => u = v ∧ h' = h ∧ N' = N) := by
  obtain ⟨ao, cap, rfl, hcap, hrow⟩ := ho.row
  refine calls_of Ybaz.func19 rfl Ybaz.ntmps19 (Nat.le_of_ble_eq_true rfl) ?_
  refine c_seq ?_
  refine c_region (by kernel_rfl) ?_
  refine st_q (ok_assign (v := .slice _ _ _) rfl ⟨rfl, rfl, rfl⟩) ?_
  refine o_nil ?_
  refine n_then ?_
  refine c_seq ?_
  refine c_seq ?_
  refine c_region (by kernel_rfl) ?_
  refine st_q (ok_move (v := .slice _ _ _) rfl ⟨rfl, rfl, rfl⟩) ?_
  refine st_q (ok_len (sl rfl) rfl ⟨rfl, rfl, rfl⟩) ?_
  refine st_q (ok_lss rfl rfl ⟨rfl, rfl, rfl⟩) ?_
  refine o_nil ?_
  refine n_then ?_
  refine c_cond_prop rfl (fun hc => ?_) (fun hc => ?_)
  · skip
    refine c_seq ?_
    refine c_region (by kernel_rfl) ?_
    refine st_q (ok_move (v := .slice _ _ _) rfl ⟨rfl, rfl, rfl⟩) ?_
    refine st_q (ok_assign (v := .slice _ _ _) rfl ⟨rfl, rfl, rfl⟩) ?_
    refine o_nil ?_
    refine n_then ?_
    refine c_ret ?_
    exact r_then (r_leave (leave_tmp rfl rfl ⟨rfl, rfl, rfl⟩))
  refine c_skip ?_
  refine n_then ?_
  refine c_seq ?_
  refine c_seq ?_
  refine c_region (by kernel_rfl) ?_
  refine st_q (ok_assign (v := .int _ _) rfl ⟨rfl, rfl, rfl⟩) ?_
  refine o_nil ?_
  refine n_then ?_
  refine c_block ?_
  refine c_loop (fun k E h' N' D => D = [] ∧ h' = h ∧ N' = N ∧ k ≤ xs.length - 1 ∧ Fr E [(0, .slice ao xs.length cap), (3, .int .i64 ((xs.length - k : Nat) : Int))]) (k := xs.length - 1) ⟨rfl, rfl, rfl, Nat.le_refl _, rfl, ?_, trivial⟩ ?_
  · show Value.int .i64 1 = _
    congr 1; omega
  rintro k E h' N' D ⟨rfl, rfl, rfl, hk, hE⟩
  obtain ⟨E0, rfl⟩ := hE.ex
  refine c_seq ?_
  refine c_seq ?_
  refine c_region (by kernel_rfl) ?_
  refine st_q (ok_move (v := .int _ _) rfl ⟨rfl, rfl, rfl⟩) ?_
  refine st_q (ok_move (v := .slice _ _ _) rfl ⟨rfl, rfl, rfl⟩) ?_
  refine st_q (ok_len (sl rfl) rfl ⟨rfl, rfl, rfl⟩) ?_
  refine st_q (ok_lss rfl rfl ⟨rfl, rfl, rfl⟩) ?_
  refine o_nil ?_
  refine n_then ?_
  refine c_cond_prop rfl (fun hc2 => ?_) (fun hc2 => ?_)
  · skip
    generalize hj : xs.length - k = j at *
    have hj1 : j - 1 < xs.length := by omega
    have hj0 : j < xs.length := by omega
    obtain ⟨b, cs, rfl, hb, hcj⟩ := hrow j xs[j] (List.getElem?_eq_getElem hj0)
    obtain ⟨b2, cs2, hbb, hb2, hcj2⟩ := hrow (j - 1) xs[j - 1] (List.getElem?_eq_getElem hj1)
    cases hbb
    have hne : xs[j] ≠ xs[j - 1] := fun e => by
      exact List.pairwise_iff_getElem.1 hnd (j - 1) j hj1 hj0 (by omega) e.symm
    rw [hb] at hb2; cases hb2
    refine c_skip ?_
    refine n_then ?_
    refine c_seq ?_
    refine c_block ?_
    refine c_seq ?_
    refine c_draw mixed [] 10 rfl [((0, 2), [((1, 2), [((2, 2), [((3, 1), [((4, 2), [((5, 2), [((6, 2), [((7, 2), [((8, 1), [((9, 2), ())])])])])])])])])])] (by kernel_rfl) (by kernel_rfl) ?_
    refine w_p rfl (fun _ _ => ok_move (v := .slice _ _ _) rfl ⟨rfl, rfl, rfl⟩) ?_
    refine w_p rfl (fun _ _ => ok_move (v := .int _ _) rfl ⟨rfl, rfl, rfl⟩) ?_
    refine w_p rfl (fun _ _ => ok_indexAddr (sl rfl) (ty rfl) rfl rfl (by omega) (by omega) (off := j) (by omega) ⟨rfl, rfl, rfl⟩) ?_
    refine w_r rfl (fun _ _ hExt => ok_load (ty rfl) rfl (hExt _ _ hb) hcj ⟨rfl, rfl, rfl⟩) ?_
    refine w_p rfl (fun _ _ => ok_move (v := .slice _ _ _) rfl ⟨rfl, rfl, rfl⟩) ?_
    refine w_p rfl (fun _ _ => ok_move (v := .int _ _) rfl ⟨rfl, rfl, rfl⟩) ?_
    refine w_p rfl (fun _ _ => ok_sub rfl rfl (by omega) (by omega) ⟨rfl, rfl, rfl⟩) ?_
    refine w_p rfl (fun _ _ => ok_indexAddr (sl rfl) (ty rfl) rfl rfl (by omega) (by omega) (off := (j - 1)) (by omega) ⟨rfl, rfl, rfl⟩) ?_
    refine w_r rfl (fun _ _ hExt => ok_load (ty rfl) rfl (hExt _ _ hb) hcj2 ⟨rfl, rfl, rfl⟩) ?_
    refine w_p rfl (fun _ _ => ok_eql_f rfl rfl ((by omega)) ⟨rfl, rfl, rfl⟩) ?_
    refine w_nil ?_
    refine n_then ?_
    refine c_cond_false rfl ?_
    refine c_skip ?_
    refine n_block (n_then ?_)
    refine c_region (by kernel_rfl) ?_
    refine st_q (ok_move (v := .int _ _) rfl ⟨rfl, rfl, rfl⟩) ?_
    refine st_q (ok_add rfl rfl (by omega) (by omega) ⟨rfl, rfl, rfl⟩) ?_
    refine st_q (ok_assign (v := .int _ _) rfl ⟨rfl, rfl, rfl⟩) ?_
    refine o_nil ?_
    refine n_then ⟨k - 1, by omega, rfl, rfl, rfl, by omega, rfl, ?_, trivial⟩
    show Value.int .i64 ((j : Int) + 1) = _
    congr 1; omega
  refine c_exit ?_
  refine x_then (x_then (x_block (n_then ?_)))
  refine c_seq ?_
  refine c_region (by kernel_rfl) ?_
  refine st_q (ok_move (v := .slice _ _ _) rfl ⟨rfl, rfl, rfl⟩) ?_
  refine st_q (ok_assign (v := .slice _ _ _) rfl ⟨rfl, rfl, rfl⟩) ?_
  refine o_nil ?_
  refine n_then ?_
  refine c_ret ?_
  exact r_leave (leave_tmp rfl rfl ⟨rfl, rfl, rfl⟩)
end Sx
end Go.Proofs.YbulkcsqkGreat
