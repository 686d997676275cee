import Derived.Test.YbulkcsqkGreatDoorSxLeaf
namespace Go.Proofs.YbulkcsqkGreatDoor
namespace Sx
set_option maxRecDepth 10000
variable {w0 : World}

/-- fanUnion.add over a graph that has no fan. -/
theorem fuAdd_ok {h : Hp} {N bu : Nat} {g0 g1 g2 g4 f6 f7 f8 f9 bv : Value} {ah : Bool} {te : TypeId} {fz : Nat × Nat} {i : Int} (hb : h bu = some (.cells #[g0, g1, g2, .slice none 0 0, g4, .bool ah, f6, f7, f8, f9] te fz)) :
    CallsX Ybaz.prog w0 34 #[.pointer (some ⟨bu, 0, none⟩), bv, .int .i64 i] h N (fun v h' _ => v = .tuple #[] ∧ Ext h h') := by
  refine calls_of Ybaz.func34 rfl Ybaz.ntmps34 (Nat.le_of_ble_eq_true rfl) ?_
  refine c_seq ?_
  refine c_draw mixed [0, 0, 0, 0, 0, 0, 0, 0, 0, 2] 12 rfl [((0, 2), [((1, 2), [((2, 2), [((3, 1), [((4, 2), [((5, 2), [((6, 2), [((7, 2), [((8, 1), [((11, 2), [((9, 0), [((10, 2), ())])])])])])])])])])])])] (by kernel_rfl) (by kernel_rfl) ?_
  refine w_p rfl (fun _ _ => ok_move (v := .pointer _) rfl ⟨rfl, rfl, rfl⟩) ?_
  refine w_p rfl (fun _ _ => ok_nilCheck_ptr rfl ⟨rfl, rfl, rfl⟩) ?_
  refine w_p rfl (fun _ _ => ok_fieldAddr (fld rfl) rfl ⟨rfl, rfl, rfl⟩) ?_
  refine w_r rfl (fun _ _ hExt => ok_loadAgg (ty rfl) rfl (hExt _ _ hb) (Nat.le_of_ble_eq_true rfl) rfl ⟨rfl, rfl, rfl⟩) ?_
  refine w_p rfl (fun _ _ => ok_move (v := .int _ _) rfl ⟨rfl, rfl, rfl⟩) ?_
  refine w_p rfl (fun _ _ => ok_move (v := .pointer _) rfl ⟨rfl, rfl, rfl⟩) ?_
  refine w_p rfl (fun _ _ => ok_nilCheck_ptr rfl ⟨rfl, rfl, rfl⟩) ?_
  refine w_p rfl (fun _ _ => ok_fieldAddr (fld rfl) rfl ⟨rfl, rfl, rfl⟩) ?_
  refine w_r rfl (fun _ _ hExt => ok_load (ty rfl) rfl (hExt _ _ hb) (by rfl) ⟨rfl, rfl, rfl⟩) ?_
  refine w_p rfl (fun _ _ => ok_move (v := .int _ _) rfl ⟨rfl, rfl, rfl⟩) ?_
  refine w_e rfl (ok_call rfl ent66 (fansAt_ok) rfl ?_)
  rintro _ h1 N1 ⟨rfl, hx1⟩
  refine ⟨trivial, ?_⟩
  refine w_p rfl (fun _ _ => ok_len (sl rfl) rfl ⟨rfl, rfl, rfl⟩) ?_
  refine w_nil ?_
  refine n_then (c_block (c_loop1 (c_seq ?_)))
  refine c_region (by kernel_rfl) ?_
  refine st_q (ok_lss rfl rfl ⟨rfl, rfl, rfl⟩) ?_
  refine o_nil ?_
  refine n_then (c_seq (c_cond_false rfl (c_exit ?_)))
  refine x_then (x_then (x_block ?_))
  exact n_leave (leave_none rfl ⟨rfl, hx1⟩)

theorem insSort0_ok {h : Hp} {N : Nat} {ao : Option Addr} {c : Nat} {fn : Fn} {f1 f2 : Array Value} :
    CallsX Ybaz.prog w0 83 #[.slice ao 0 c, .int .i64 0, .int .i64 0, .func fn f1 f2] h N (fun v h' N' => v = .tuple #[] ∧ h' = h ∧ N' = N) := by
  refine calls_of Ybaz.func83 rfl Ybaz.ntmps83 (Nat.le_of_ble_eq_true rfl) ?_
  refine c_seq ?_
  refine c_region (by kernel_rfl) ?_
  refine st_q (ok_move (v := .int _ _) rfl ⟨rfl, rfl, rfl⟩) ?_
  refine st_q (ok_add rfl rfl (by omega) (by omega) ⟨rfl, rfl, rfl⟩) ?_
  refine st_q (ok_assign (v := .int _ _) rfl ⟨rfl, rfl, rfl⟩) ?_
  refine o_nil ?_
  refine n_then (c_block (c_loop1 (c_seq (c_seq ?_))))
  refine c_region (by kernel_rfl) ?_
  refine st_q (ok_move (v := .int _ _) rfl ⟨rfl, rfl, rfl⟩) ?_
  refine st_q (ok_move (v := .int _ _) rfl ⟨rfl, rfl, rfl⟩) ?_
  refine st_q (ok_lss rfl rfl ⟨rfl, rfl, rfl⟩) ?_
  refine o_nil ?_
  refine n_then (c_cond_false rfl (c_exit ?_))
  refine x_then (x_then (x_block ?_))
  exact n_leave (leave_none rfl ⟨rfl, rfl, rfl⟩)

theorem pdq0_ok {h : Hp} {N : Nat} {ao : Option Addr} {c : Nat} {fn : Fn} {f1 f2 : Array Value} {lim : Int} :
    CallsX Ybaz.prog w0 71 #[.slice ao 0 c, .int .i64 0, .int .i64 0, .int .i64 lim, .func fn f1 f2] h N (fun v h' N' => v = .tuple #[] ∧ h' = h ∧ N' = N) := by
  refine calls_of Ybaz.func71 rfl Ybaz.ntmps71 (Nat.le_of_ble_eq_true rfl) ?_
  refine c_seq ?_
  refine c_region (by kernel_rfl) ?_
  refine st_q (ok_assign (v := .bool _) rfl ⟨rfl, rfl, rfl⟩) ?_
  refine o_nil ?_
  refine n_then (c_seq ?_)
  refine c_region (by kernel_rfl) ?_
  refine st_q (ok_assign (v := .bool _) rfl ⟨rfl, rfl, rfl⟩) ?_
  refine o_nil ?_
  refine n_then (c_block (c_loop1 (c_block (c_seq ?_))))
  refine c_region (by kernel_rfl) ?_
  refine st_q (ok_move (v := .int _ _) rfl ⟨rfl, rfl, rfl⟩) ?_
  refine st_q (ok_move (v := .int _ _) rfl ⟨rfl, rfl, rfl⟩) ?_
  refine st_q (ok_sub rfl rfl (by omega) (by omega) ⟨rfl, rfl, rfl⟩) ?_
  refine st_q (ok_assign (v := .int _ _) rfl ⟨rfl, rfl, rfl⟩) ?_
  refine o_nil ?_
  refine n_then (c_seq (c_seq ?_))
  refine c_region (by kernel_rfl) ?_
  refine st_q (ok_move (v := .int _ _) rfl ⟨rfl, rfl, rfl⟩) ?_
  refine st_q (ok_leq rfl rfl ⟨rfl, rfl, rfl⟩) ?_
  refine o_nil ?_
  refine n_then (c_cond_true rfl (c_seq ?_))
  refine c_region (by kernel_rfl) ?_
  refine st_q (ok_move (v := .slice _ _ _) rfl ⟨rfl, rfl, rfl⟩) ?_
  refine st_q (ok_move (v := .int _ _) rfl ⟨rfl, rfl, rfl⟩) ?_
  refine st_q (ok_move (v := .int _ _) rfl ⟨rfl, rfl, rfl⟩) ?_
  refine st_q (ok_move (v := .func _ _ _) rfl ⟨rfl, rfl, rfl⟩) ?_
  refine st (ok_call rfl ent83 (insSort0_ok) rfl ?_)
  rintro _ _ _ ⟨rfl, rfl, rfl⟩
  refine o_nil ?_
  refine n_then (c_ret ?_)
  refine r_then (r_block (r_then (r_block ?_)))
  exact r_leave (leave_none rfl ⟨rfl, rfl, rfl⟩)

theorem len64_0 {h : Hp} {N : Nat} : CallsX Ybaz.prog w0 92 #[.int .u64 0] h N (fun v h' N' => v = .int .i64 0 ∧ h' = h ∧ N' = N) := by
  refine calls_of Ybaz.func92 rfl Ybaz.ntmps92 (Nat.le_of_ble_eq_true rfl) ?_
  refine c_seq ?_
  refine c_region (by kernel_rfl) ?_
  refine st_q (ok_assign (v := .int _ _) rfl ⟨rfl, rfl, rfl⟩) ?_
  refine o_nil ?_
  refine n_then (c_seq (c_seq ?_))
  refine c_region (by kernel_rfl) ?_
  refine st_q (ok_move (v := .int _ _) rfl ⟨rfl, rfl, rfl⟩) ?_
  refine st_q (ok_geq rfl rfl ⟨rfl, rfl, rfl⟩) ?_
  refine o_nil ?_
  refine n_then (c_cond_false rfl (c_skip ?_))
  refine n_then (c_seq (c_seq ?_))
  refine c_region (by kernel_rfl) ?_
  refine st_q (ok_move (v := .int _ _) rfl ⟨rfl, rfl, rfl⟩) ?_
  refine st_q (ok_geq rfl rfl ⟨rfl, rfl, rfl⟩) ?_
  refine o_nil ?_
  refine n_then (c_cond_false rfl (c_skip ?_))
  refine n_then (c_seq (c_seq ?_))
  refine c_region (by kernel_rfl) ?_
  refine st_q (ok_move (v := .int _ _) rfl ⟨rfl, rfl, rfl⟩) ?_
  refine st_q (ok_geq rfl rfl ⟨rfl, rfl, rfl⟩) ?_
  refine o_nil ?_
  refine n_then (c_cond_false rfl (c_skip ?_))
  refine n_then (c_seq ?_)
  refine c_region (by kernel_rfl) ?_
  refine st_q (ok_move (v := .int _ _) rfl ⟨rfl, rfl, rfl⟩) ?_
  refine st_q (ok_move (v := .int _ _) rfl ⟨rfl, rfl, rfl⟩) ?_
  refine st_q (ok_convert (ik rfl) (ik rfl) rfl (by rfl) ⟨rfl, rfl, rfl⟩) ?_
  refine st_q (ok_indexStr (bv := 0) Ybaz.underlying9 rfl rfl (by omega) (by kernel_rfl) ⟨rfl, rfl, rfl⟩) ?_
  refine st_q (ok_convert (ik rfl) (ik rfl) rfl (by rfl) ⟨rfl, rfl, rfl⟩) ?_
  refine st_q (ok_add rfl rfl (by decide) (by decide) ⟨rfl, rfl, rfl⟩) ?_
  refine st_q (ok_assign (v := .int _ _) rfl ⟨rfl, rfl, rfl⟩) ?_
  refine o_nil ?_
  refine n_then (c_ret ?_)
  exact r_leave (leave_tmp rfl rfl ⟨rfl, rfl, rfl⟩)
theorem len_0 {h : Hp} {N : Nat} : CallsX Ybaz.prog w0 72 #[.int .u64 0] h N (fun v h' N' => v = .int .i64 0 ∧ h' = h ∧ N' = N) := by
  refine calls_of Ybaz.func72 rfl Ybaz.ntmps72 (Nat.le_of_ble_eq_true rfl) ?_
  refine c_seq ?_
  refine c_region (by kernel_rfl) ?_
  refine st_q (ok_assign (v := .int _ _) rfl ⟨rfl, rfl, rfl⟩) ?_
  refine o_nil ?_
  refine n_then (c_seq (c_cond_false rfl (c_skip ?_)))
  refine n_then (c_seq ?_)
  refine c_region (by kernel_rfl) ?_
  refine st_q (ok_move (v := .int _ _) rfl ⟨rfl, rfl, rfl⟩) ?_
  refine st (ok_call rfl ent92 (len64_0) rfl ?_)
  rintro _ _ _ ⟨rfl, rfl, rfl⟩
  refine st_q (ok_assign (v := .int _ _) rfl ⟨rfl, rfl, rfl⟩) ?_
  refine o_nil ?_
  refine n_then (c_ret ?_)
  exact r_leave (leave_tmp rfl rfl ⟨rfl, rfl, rfl⟩)
theorem sort0_ok {h : Hp} {N : Nat} {ao : Option Addr} {c : Nat} {fn : Fn} {f1 f2 : Array Value} :
    CallsX Ybaz.prog w0 35 #[.slice ao 0 c, .func fn f1 f2] h N (fun v h' N' => v = .tuple #[] ∧ h' = h ∧ N' = N) := by
  refine calls_of Ybaz.func35 rfl Ybaz.ntmps35 (Nat.le_of_ble_eq_true rfl) ?_
  refine c_seq ?_
  refine c_region (by kernel_rfl) ?_
  refine st_q (ok_move (v := .slice _ _ _) rfl ⟨rfl, rfl, rfl⟩) ?_
  refine st_q (ok_len (sl rfl) rfl ⟨rfl, rfl, rfl⟩) ?_
  refine st_q (ok_assign (v := .int _ _) rfl ⟨rfl, rfl, rfl⟩) ?_
  refine o_nil ?_
  refine n_then ?_
  refine c_region (by kernel_rfl) ?_
  refine st_q (ok_move (v := .slice _ _ _) rfl ⟨rfl, rfl, rfl⟩) ?_
  refine st_q (ok_move (v := .int _ _) rfl ⟨rfl, rfl, rfl⟩) ?_
  refine st_q (ok_move (v := .int _ _) rfl ⟨rfl, rfl, rfl⟩) ?_
  refine st_q (ok_convert (ik rfl) (ik rfl) rfl (by rfl) ⟨rfl, rfl, rfl⟩) ?_
  refine st (ok_call rfl ent72 (len_0) rfl ?_)
  rintro _ _ _ ⟨rfl, rfl, rfl⟩
  refine st_q (ok_move (v := .func _ _ _) rfl ⟨rfl, rfl, rfl⟩) ?_
  refine st (ok_call rfl ent71 (pdq0_ok) rfl ?_)
  rintro _ _ _ ⟨rfl, rfl, rfl⟩
  refine o_nil ?_
  exact n_leave (leave_none rfl ⟨rfl, rfl, rfl⟩)
theorem rev0_ok {h : Hp} {N : Nat} {ao : Option Addr} {c : Nat} :
    CallsX Ybaz.prog w0 39 #[.slice ao 0 c] h N (fun v h' N' => v = .tuple #[] ∧ h' = h ∧ N' = N) := by
  refine calls_of Ybaz.func39 rfl Ybaz.ntmps39 (Nat.le_of_ble_eq_true rfl) ?_
  refine c_seq ?_
  refine c_region (by kernel_rfl) ?_
  refine st_q (ok_move (v := .slice _ _ _) rfl ⟨rfl, rfl, rfl⟩) ?_
  refine st_q (ok_len (sl rfl) rfl ⟨rfl, rfl, rfl⟩) ?_
  refine st_q (ok_sub rfl rfl (by omega) (by omega) ⟨rfl, rfl, rfl⟩) ?_
  refine st_q (ok_assign (v := .int _ _) rfl ⟨rfl, rfl, rfl⟩) ?_
  refine st_q (ok_assign (v := .int _ _) rfl ⟨rfl, rfl, rfl⟩) ?_
  refine o_nil ?_
  refine n_then (c_block (c_loop1 (c_seq (c_seq ?_))))
  refine c_region (by kernel_rfl) ?_
  refine st_q (ok_move (v := .int _ _) rfl ⟨rfl, rfl, rfl⟩) ?_
  refine st_q (ok_move (v := .int _ _) rfl ⟨rfl, rfl, rfl⟩) ?_
  refine st_q (ok_lss rfl rfl ⟨rfl, rfl, rfl⟩) ?_
  refine o_nil ?_
  refine n_then (c_cond_false rfl (c_exit ?_))
  refine x_then (x_then (x_block ?_))
  exact n_leave (leave_none rfl ⟨rfl, rfl, rfl⟩)

/-- Cells that are all numbers of kind uint64. -/
def U64s (cs : Array Value) : Prop := ∀ j, j < cs.size → ∃ x, cs[j]? = some (.int .u64 x)
theorem U64s.set {cs : Array Value} (hu : U64s cs) (j : Nat) (x : Int) : U64s (setA cs j (.int .u64 x)) := by
  intro i hi
  simp at hi
  by_cases e : j = i
  · subst e; exact ⟨x, setA_same _ _ hi⟩
  · rw [setA_ne _ _ e]; exact hu i hi
/-- union with no node: it turns one word of the row. -/
theorem union0_ok {h : Hp} {N rb o W c : Nat} {cs : Array Value} {ao : Option Addr} {cc : Nat} {fn : Fn} {f1 f2 : Array Value} {i : Nat} (hb : h rb = some (.cells cs 181 (0, 0))) (hu : U64s cs) (ho : o + W ≤ cs.size) (hi : i < 64 * W) (hW : W ≤ 1000) :
    CallsX Ybaz.prog w0 36 #[.slice (some ⟨rb, o, none⟩) W c, .int .i64 i, .slice ao 0 cc, .func fn f1 f2] h N
      (fun v h' N' => v = .tuple #[] ∧ N' = N ∧ ∃ x, h' = hset h rb (.cells (setA cs (o + i / 64) (.int .u64 x)) 181 (0, 0))) := by
  refine calls_of Ybaz.func36 rfl Ybaz.ntmps36 (Nat.le_of_ble_eq_true rfl) ?_
  have hq : i / 64 < W := by omega
  obtain ⟨x, hx⟩ := hu (o + i / 64) (by omega)
  refine c_seq ?_
  refine c_draw mixed [0, 0, 0, 0, 0, 0, 0, 0, 0, 0, 2] 11 rfl [((0, 2), [((1, 2), [((2, 2), [((3, 2), [((4, 1), [((5, 2), [((6, 2), [((7, 2), [((8, 2), [((9, 2), [((10, 0), ())])])])])])])])])])])] (by kernel_rfl) (by kernel_rfl) ?_
  refine w_p rfl (fun _ _ => ok_move (v := .slice _ _ _) rfl ⟨rfl, rfl, rfl⟩) ?_
  refine w_p rfl (fun _ _ => ok_move (v := .int _ _) rfl ⟨rfl, rfl, rfl⟩) ?_
  refine w_p rfl (fun _ _ => ok_quo rfl rfl (by omega) (by omega) (by omega) ⟨rfl, rfl, rfl⟩) ?_
  refine w_p rfl (fun _ _ => ok_indexAddr (sl rfl) (ty rfl) rfl rfl (by omega) (by omega) (off := o + i / 64) (by omega) ⟨rfl, rfl, rfl⟩) ?_
  refine w_r rfl (fun _ _ hExt => ok_load (ty rfl) rfl (hExt _ _ hb) hx ⟨rfl, rfl, rfl⟩) ?_
  refine w_p rfl (fun _ _ => ok_move (v := .int _ _) rfl ⟨rfl, rfl, rfl⟩) ?_
  refine w_p rfl (fun _ _ => ok_rem rfl rfl (by omega) (by omega) ⟨rfl, rfl, rfl⟩) ?_
  refine w_p rfl (fun _ _ => ok_shl rfl rfl (by omega) ⟨rfl, rfl, rfl⟩) ?_
  refine w_p rfl (fun _ _ => ok_or rfl rfl ⟨rfl, rfl, rfl⟩) ?_
  refine w_p rfl (fun _ _ => ok_indexAddr (sl rfl) (ty rfl) rfl rfl (by omega) (by omega) (off := o + i / 64) (by omega) ⟨rfl, rfl, rfl⟩) ?_
  refine w_e0 rfl (ok_store (ty rfl) rfl (v := .int _ _) rfl rfl hb (by omega) ⟨trivial, ?_⟩)
  refine w_nil ?_
  refine n_then (c_seq ?_)
  refine c_region (by kernel_rfl) ?_
  refine st_q (ok_move (v := .slice _ _ _) rfl ⟨rfl, rfl, rfl⟩) ?_
  refine st_q (ok_len (sl rfl) rfl ⟨rfl, rfl, rfl⟩) ?_
  refine st_q (ok_move (v := .int _ _) rfl ⟨rfl, rfl, rfl⟩) ?_
  refine o_nil ?_
  refine n_then (c_block (c_loop1 (c_seq ?_)))
  refine c_region (by kernel_rfl) ?_
  refine st_q (ok_lss rfl rfl ⟨rfl, rfl, rfl⟩) ?_
  refine o_nil ?_
  refine n_then (c_seq (c_cond_false rfl (c_exit ?_)))
  refine x_then (x_then (x_block ?_))
  exact n_leave (leave_none rfl ⟨rfl, rfl, _, rfl⟩)
end Sx
end Go.Proofs.YbulkcsqkGreatDoor
