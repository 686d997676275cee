import Derived.Test.YbulkcsqkGreatDoorSxLeaf2
import Derived.Test.YbulkcsqkGreatDoorSxRange
namespace Go.Proofs.YbulkcsqkGreatDoor
namespace Sx
set_option maxRecDepth 10000
variable {w0 : World}

/-- newFanUnion over a graph that has no fan. -/
theorem newFanUnion_ok {h : Hp} {N : Nat} {a0 a1 : Option Addr} {n0 c0 n1 c1 : Nat} {ah : Bool} {fn fn' : Fn} {f1 f2 f3 f4 : Array Value} :
    CallsX Ybaz.prog w0 31 #[.agg #[.slice a0 n0 c0, .slice a1 n1 c1, .slice none 0 0, .slice none 0 0, .slice none 0 0], .bool ah, .func fn f1 f2, .func fn' f3 f4] h N
      (fun v h' _ => Ext h h' ∧ ∃ b1 b2, v = .agg #[.slice a0 n0 c0, .slice a1 n1 c1, .slice none 0 0, .slice none 0 0, .slice none 0 0, .bool ah, .func fn f1 f2, .func fn' f3 f4, .slice (some ⟨b1, 0, none⟩) 0 0, .slice (some ⟨b2, 0, none⟩) 0 0]) := by
  refine calls_of Ybaz.func31 rfl Ybaz.ntmps31 (Nat.le_of_ble_eq_true rfl) ?_
  refine c_seq ?_
  refine c_region (by kernel_rfl) ?_
  refine st (ok_box (v := .agg _) rfl rfl (fun hN4 => ?_))
  refine st (ok_alloc (ty rfl) rfl (fun hN8 => ?_))
  refine o_nil ?_
  refine n_then (c_seq ?_)
  refine c_heap (fun h' N' => Ext h h' ∧ h' N = some (.cells #[.slice a0 n0 c0, .slice a1 n1 c1, .slice none 0 0, .slice none 0 0, .slice none 0 0] 39 (0, 0)) ∧ h' (N + 1) = some (.cells #[.slice none 0 0, .slice none 0 0, .slice none 0 0, .slice none 0 0, .slice none 0 0, .bool false, .nilFunc, .nilFunc, .slice none 0 0, .slice none 0 0] 136 (0, 0)) ∧ h (N + 1) = none)
    ⟨(Ext.push hN4 _).trans (Ext.push hN8 _), Ext.push hN8 _ _ _ (hset_same _ _ _), hset_same _ _ _, hN4 _ (by omega)⟩ ?_
  rintro h2 N2 ⟨hx2, hb, hd, hn1⟩
  refine c_cut (fun E h' N' D => Fr E [(8, .pointer (some ⟨N + 1, 0, none⟩))] ∧ D = [] ∧ Ext h h' ∧ ∃ b1 b2, h' (N + 1) = some (.cells #[.slice a0 n0 c0, .slice a1 n1 c1, .slice none 0 0, .slice none 0 0, .slice none 0 0, .bool ah, .func fn f1 f2, .func fn' f3 f4, .slice (some ⟨b1, 0, none⟩) 0 0, .slice (some ⟨b2, 0, none⟩) 0 0] 136 (0, 0))) ?_ ?_
  · skip
    refine c_draw mixed [0, 0, 0, 0, 0, 0, 0, 1, 0, 0, 0, 1, 0, 2] 14 rfl [((0, 1), [((1, 2), [((2, 2), [((3, 2), [((4, 2), [((5, 1), [((6, 2), [((8, 2), [((9, 1), [((10, 2), [((7, 0), [((11, 0), [((12, 2), [((13, 0), ())])])]), ((11, 0), [((7, 0), [((12, 2), [((13, 0), ())])])])])])])])])])])])])])] (by kernel_rfl) (by kernel_rfl) ?_
    refine w_r rfl (fun _ _ hExt => ok_loadAgg (ty rfl) rfl (hExt _ _ hb) (Nat.le_of_ble_eq_true rfl) rfl ⟨rfl, rfl, rfl⟩) ?_
    refine w_p rfl (fun _ _ => ok_move (v := .bool _) rfl ⟨rfl, rfl, rfl⟩) ?_
    refine w_p rfl (fun _ _ => ok_move (v := .func _ _ _) rfl ⟨rfl, rfl, rfl⟩) ?_
    refine w_p rfl (fun _ _ => ok_move (v := .func _ _ _) rfl ⟨rfl, rfl, rfl⟩) ?_
    refine w_p rfl (fun _ _ => ok_fieldAddr (fld rfl) rfl ⟨rfl, rfl, rfl⟩) ?_
    refine w_r rfl (fun _ _ hExt => ok_load (ty rfl) rfl (hExt _ _ hb) (by rfl) ⟨rfl, rfl, rfl⟩) ?_
    refine w_p rfl (fun _ _ => ok_len (sl rfl) rfl ⟨rfl, rfl, rfl⟩) ?_
    refine w_p rfl (fun _ _ => ok_fieldAddr (fld rfl) rfl ⟨rfl, rfl, rfl⟩) ?_
    refine w_r rfl (fun _ _ hExt => ok_load (ty rfl) rfl (hExt _ _ hb) (by rfl) ⟨rfl, rfl, rfl⟩) ?_
    refine w_p rfl (fun _ _ => ok_len (sl rfl) rfl ⟨rfl, rfl, rfl⟩) ?_
    refine w_cons ?_ (w_cons ?_ (w_none))
    · skip
      refine w_e rfl (ok_makeSlice (sl rfl) (ty rfl) rfl rfl (by omega) (by omega) (by omega) (by omega) (l' := 0) (c' := 0) (by omega) (by omega) (fun hN16 => ⟨.inr ⟨_, rfl, rfl⟩, ?_⟩))
      refine w_e rfl (ok_makeSlice (sl rfl) (ty rfl) rfl rfl (by omega) (by omega) (by omega) (by omega) (l' := 0) (c' := 0) (by omega) (by omega) (fun hN20 => ⟨.inr ⟨_, rfl, rfl⟩, ?_⟩))
      refine w_p rfl (fun _ _ => ok_build rfl (v := .agg #[.slice a0 n0 c0, .slice a1 n1 c1, .slice none 0 0, .slice none 0 0, .slice none 0 0, .bool ah, .func fn f1 f2, .func fn' f3 f4, .slice (some ⟨N2, 0, none⟩) 0 0, .slice (some ⟨N2 + 1, 0, none⟩) 0 0]) (fun _ => by kernel_rfl) ⟨rfl, rfl, rfl⟩) ?_
      refine w_e0 rfl (ok_storeL (ty rfl) rfl (v := .agg _) rfl rfl rfl rfl (by first | exact Ext.push hN20 _ _ _ (Ext.push hN16 _ _ _ hd) | exact Ext.push hN16 _ _ _ (Ext.push hN20 _ _ _ hd)) (Nat.le_of_ble_eq_true rfl) ⟨trivial, ?_⟩)
      refine w_nil ?_
      refine n_then ⟨⟨rfl, trivial⟩, rfl, Ext.fresh (by first | exact (hx2.trans (Ext.push hN16 _)).trans (Ext.push hN20 _) | exact (hx2.trans (Ext.push hN20 _)).trans (Ext.push hN16 _)) hn1 _, _, _, hset_same _ _ _⟩
    · skip
      refine w_e rfl (ok_makeSlice (sl rfl) (ty rfl) rfl rfl (by omega) (by omega) (by omega) (by omega) (l' := 0) (c' := 0) (by omega) (by omega) (fun hN20 => ⟨.inr ⟨_, rfl, rfl⟩, ?_⟩))
      refine w_e rfl (ok_makeSlice (sl rfl) (ty rfl) rfl rfl (by omega) (by omega) (by omega) (by omega) (l' := 0) (c' := 0) (by omega) (by omega) (fun hN16 => ⟨.inr ⟨_, rfl, rfl⟩, ?_⟩))
      refine w_p rfl (fun _ _ => ok_build rfl (v := .agg #[.slice a0 n0 c0, .slice a1 n1 c1, .slice none 0 0, .slice none 0 0, .slice none 0 0, .bool ah, .func fn f1 f2, .func fn' f3 f4, .slice (some ⟨N2 + 1, 0, none⟩) 0 0, .slice (some ⟨N2, 0, none⟩) 0 0]) (fun _ => by kernel_rfl) ⟨rfl, rfl, rfl⟩) ?_
      refine w_e0 rfl (ok_storeL (ty rfl) rfl (v := .agg _) rfl rfl rfl rfl (by first | exact Ext.push hN20 _ _ _ (Ext.push hN16 _ _ _ hd) | exact Ext.push hN16 _ _ _ (Ext.push hN20 _ _ _ hd)) (Nat.le_of_ble_eq_true rfl) ⟨trivial, ?_⟩)
      refine w_nil ?_
      refine n_then ⟨⟨rfl, trivial⟩, rfl, Ext.fresh (by first | exact (hx2.trans (Ext.push hN16 _)).trans (Ext.push hN20 _) | exact (hx2.trans (Ext.push hN20 _)).trans (Ext.push hN16 _)) hn1 _, _, _, hset_same _ _ _⟩
  · rintro E h' N' D ⟨⟨hE, _⟩, rfl, hx3, b1, b2, hb3⟩
    refine n_then (c_ret ?_)
    exact r_leave (leave_cell rfl (ty rfl) hE hb3 (Nat.le_of_ble_eq_true rfl) rfl ⟨hx3, b1, b2, rfl⟩)

theorem backward_ok {h : Hp} {N : Nat} {ao : Option Addr} {n c : Nat} :
    CallsX Ybaz.prog w0 33 #[.slice ao n c] h N (fun v h' N' => v = .func (.func 65) #[] #[.pointer (some ⟨N, 0, none⟩)] ∧ h' = hset h N (.cells #[.slice ao n c] 25 (0, 0)) ∧ N' = N + 1 ∧ ∀ b, N ≤ b → h b = none) := by
  refine calls_of Ybaz.func33 rfl Ybaz.ntmps33 (Nat.le_of_ble_eq_true rfl) ?_
  refine c_seq ?_
  refine c_region (by kernel_rfl) ?_
  refine st (ok_box (v := .slice _ _ _) rfl rfl (fun hN1 => ?_))
  refine st_q (ok_assign (v := .nilFunc) rfl ⟨rfl, rfl, rfl⟩) ?_
  refine o_nil ?_
  refine n_then (c_seq ?_)
  refine c_region (by kernel_rfl) ?_
  refine st_q (ok_makeFunc rfl rfl ⟨rfl, rfl, rfl⟩) ?_
  refine st_q (ok_assign (v := .func _ _ _) rfl ⟨rfl, rfl, rfl⟩) ?_
  refine o_nil ?_
  refine n_then (c_ret ?_)
  exact r_leave (leave_tmp rfl rfl ⟨rfl, rfl, rfl, hN1⟩)

/-- slices.Backward's iterator, over a row of numbers that every round leaves alone. -/
theorem backIter_ok {h : Hp} {N l bb ob n c : Nat} {xs : Array Value} {J : Nat → Hp → Nat → Prop} {Jx : Hp → Nat → Prop} {te : TypeId} {fz : Nat × Nat} (f : Nat → Int) (hn : n ≤ 1000000)
    (hJ : ∀ j h N, J j h N → (h bb = some (.cells #[.slice (some ⟨ob, 0, none⟩) n c] 25 (0, 0)) ∧ h ob = some (.cells xs te fz))) (hxs : ∀ j, j < n → xs[j]? = some (.int .i64 (f j)))
    (hY : ∀ j h N, j < n → J (j + 1) h N → YieldsTo Ybaz.prog w0 l [.int .i64 j, .int .i64 (f j)] h N (fun b h' N' => (b = true ∧ J j h' N') ∨ (b = false ∧ Jx h' N'))) (h0 : J n h N) :
    CallsX Ybaz.prog w0 65 #[.func (.yield l) #[] #[], .pointer (some ⟨bb, 0, none⟩)] h N (fun _ h' N' => J 0 h' N' ∨ Jx h' N') := by
  refine calls_of Ybaz.func65 rfl Ybaz.ntmps65 (Nat.le_of_ble_eq_true rfl) ?_
  obtain ⟨hb, _⟩ := hJ _ _ _ h0
  refine c_seq ?_
  refine c_region (by kernel_rfl) ?_
  refine st_q (ok_load (ty rfl) rfl hb (by rfl) ⟨rfl, rfl, rfl⟩) ?_
  refine st_q (ok_len (sl rfl) rfl ⟨rfl, rfl, rfl⟩) ?_
  refine st_q (ok_sub rfl rfl (by omega) (by omega) ⟨rfl, rfl, rfl⟩) ?_
  refine st_q (ok_assign (v := .int _ _) rfl ⟨rfl, rfl, rfl⟩) ?_
  refine o_nil ?_
  refine n_then (c_block ?_)
  refine c_loop (fun k E h N D => D = [] ∧ k ≤ n ∧ J k h N ∧ Fr E [(0, .func (.yield l) #[] #[]), (1, .pointer (some ⟨bb, 0, none⟩)), (3, .int .i64 ((k : Int) - 1))]) (k := n) ⟨rfl, Nat.le_refl _, h0, rfl, rfl, rfl, trivial⟩ ?_
  rintro k E h N D ⟨rfl, hk, hJk, hE⟩
  obtain ⟨E0, rfl⟩ := hE.ex
  obtain ⟨hb, hxs2⟩ := hJ _ _ _ hJk
  refine c_seq (c_seq ?_)
  refine c_region (by kernel_rfl) ?_
  refine st_q (ok_move (v := .int _ _) rfl ⟨rfl, rfl, rfl⟩) ?_
  refine st_q (ok_geq rfl rfl ⟨rfl, rfl, rfl⟩) ?_
  refine o_nil ?_
  refine n_then ?_
  refine c_cond_prop rfl (fun hc => ?_) (fun hc => ?_)
  · obtain ⟨j, rfl⟩ : ∃ j, k = j + 1 := ⟨k - 1, by omega⟩
    have hj : j < n := by omega
    rw [show (((j + 1 : Nat) : Int) - 1) = (j : Int) from by omega]
    refine c_skip (n_then (c_seq (c_block (c_seq ?_))))
    refine c_region (by kernel_rfl) ?_
    refine st_q (ok_move (v := .func _ _ _) rfl ⟨rfl, rfl, rfl⟩) ?_
    refine st_q (ok_move (v := .int _ _) rfl ⟨rfl, rfl, rfl⟩) ?_
    refine st_q (ok_load (ty rfl) rfl hb (by rfl) ⟨rfl, rfl, rfl⟩) ?_
    refine st_q (ok_move (v := .int _ _) rfl ⟨rfl, rfl, rfl⟩) ?_
    refine st_q (ok_indexAddr (sl rfl) (ty rfl) rfl rfl (by omega) (by omega) (off := j) (by omega) ⟨rfl, rfl, rfl⟩) ?_
    refine st_q (ok_load (ty rfl) rfl hxs2 (hxs j hj) ⟨rfl, rfl, rfl⟩) ?_
    refine st (ok_yield rfl (hY j _ _ hj hJk) rfl ?_)
    rintro b h2 N2 (⟨rfl, hJ2⟩ | ⟨rfl, hJ2⟩)
    · refine st_q (ok_not rfl ⟨rfl, rfl, rfl⟩) (o_nil ?_)
      refine n_then (c_cond_false rfl (c_skip (n_block (n_then ?_))))
      refine c_region (by kernel_rfl) ?_
      refine st_q (ok_move (v := .int _ _) rfl ⟨rfl, rfl, rfl⟩) ?_
      refine st_q (ok_sub rfl rfl (by omega) (by omega) ⟨rfl, rfl, rfl⟩) ?_
      refine st_q (ok_assign (v := .int _ _) rfl ⟨rfl, rfl, rfl⟩) ?_
      refine o_nil ?_
      refine n_then ⟨j, by omega, rfl, by omega, hJ2, rfl, rfl, rfl, trivial⟩
    · refine st_q (ok_not rfl ⟨rfl, rfl, rfl⟩) (o_nil ?_)
      refine n_then (c_cond_true rfl (c_ret (r_block (r_then (r_then (r_block ?_))))))
      exact r_leave (leave_none rfl (.inr hJ2))
  · refine c_exit (x_then (x_then (x_block ?_)))
    have : k = 0 := by omega
    subst this
    exact n_leave (leave_none rfl (.inl hJk))
end Sx
end Go.Proofs.YbulkcsqkGreatDoor
