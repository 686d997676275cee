import Derived.Test.YbulkcsqkGreatSxLeafB
namespace Go.Proofs.YbulkcsqkGreat
namespace Sx
set_option maxRecDepth 10000
set_option maxHeartbeats 1000000
section
variable {w0 : World} {h : Hp} {N : Nat}
theorem triesSecond_ok {bp bg o i : Nat} {keep : Int} {pc gc : Array Value} {ev0 : Value} {tp tg : TypeId} {fp fg : Nat × Nat} (hp : h bp = some (.cells pc tp fp)) (hp5 : pc[0 + 5]? = some (.slice none 0 0)) (hg : h bg = some (.cells gc tg fg)) (hg12 : gc[o + 12]? = some (.int .i64 keep)) :
    CallsX Ybaz.prog w0 59 #[.pointer (some ⟨bp, 0, none⟩), .pointer (some ⟨bg, o, none⟩), .int .i64 (i : Int), ev0] h N (fun u h' _ => u = .bool (decide (keep ≤ (i : Int))) ∧ Ext h h') := by
  refine calls_of Ybaz.func59 rfl Ybaz.ntmps59 (Nat.le_of_ble_eq_true rfl) ?_
  refine c_seq ?_
  refine c_region (by kernel_rfl) ?_
  refine st (ok_box (v := ev0) rfl rfl (fun hN7 => ?_))
  refine st_q (ok_assign (v := .bool _) rfl ⟨rfl, rfl, rfl⟩) ?_
  refine o_nil ?_
  refine n_then ?_
  have hx : Ext h (hset h N (.cells ev0.cells 56 (0, 0))) := Ext.push hN7 _
  have hp' := hx _ _ hp
  have hg' := hx _ _ hg
  generalize hset h N (.cells ev0.cells 56 (0, 0)) = h1 at *
  refine c_seq ?_
  refine c_cut (fun E h' _ D => D = [] ∧ h' = h1 ∧ Fr E [(8, .bool (decide (keep ≤ (i : Int))))]) ?_ ?_
  · skip
    refine c_draw mixed [] 40 rfl [((0, 2), [((1, 2), [((2, 2), [((3, 1), [((4, 2), [((5, 2), [((6, 2), [((7, 2), [((8, 2), [((9, 1), [((10, 2), [((11, 1), [((12, 2), [((13, 1), [((14, 2), [((15, 2), [((16, 2), [((17, 1), [((18, 2), [((19, 1), [((20, 2), [((21, 1), [((22, 2), [((23, 2), [((24, 2), [((25, 2), [((26, 2), [((27, 2), [((28, 1), [((29, 2), [((30, 2), [((31, 2), [((32, 2), [((33, 2), [((34, 2), [((35, 1), [((36, 2), [((37, 2), [((38, 2), [((39, 2), ())])])])])])])])])])])])])])])])])])])])])])])])])])])])])])])])])])])])])])])])] (by kernel_rfl) (by kernel_rfl) ?_
    refine w_p rfl (fun _ _ => ok_move (v := .pointer _) rfl ⟨rfl, rfl, rfl⟩) ?_
    refine w_p rfl (fun _ _ => ok_nilCheck_ptr rfl ⟨rfl, rfl, rfl⟩) ?_
    refine w_p rfl (fun _ _ => ok_fieldAddr (fld rfl) rfl ⟨rfl, rfl, rfl⟩) ?_
    refine w_r rfl (fun _ _ hExt => ok_load (ty rfl) rfl (hExt _ _ hp') hp5 ⟨rfl, rfl, rfl⟩) ?_
    refine w_p rfl (fun _ _ => ok_neq_nil (sl rfl) rfl rfl ⟨rfl, rfl, rfl⟩) ?_
    refine w_p rfl (fun _ _ => ok_move (v := .bool _) rfl ⟨rfl, rfl, rfl⟩) ?_
    refine w_s rfl rfl (by decide) ?_
    refine w_s rfl rfl (by decide) ?_
    refine w_s rfl rfl (by decide) ?_
    refine w_s rfl rfl (by decide) ?_
    refine w_s rfl rfl (by decide) ?_
    refine w_s rfl rfl (by decide) ?_
    refine w_s rfl rfl (by decide) ?_
    refine w_s rfl rfl (by decide) ?_
    refine w_s rfl rfl (by decide) ?_
    refine w_s rfl rfl (by decide) ?_
    refine w_s rfl rfl (by decide) ?_
    refine w_s rfl rfl (by decide) ?_
    refine w_s rfl rfl (by decide) ?_
    refine w_s rfl rfl (by decide) ?_
    refine w_s rfl rfl (by decide) ?_
    refine w_s rfl rfl (by decide) ?_
    refine w_s rfl rfl (by decide) ?_
    refine w_p rfl (fun _ _ => ok_pick_false rfl rfl ⟨rfl, rfl, rfl⟩) ?_
    refine w_p rfl (fun _ _ => ok_move (v := .bool _) rfl ⟨rfl, rfl, rfl⟩) ?_
    refine w_pg rfl rfl (fun _ _ => ok_move (v := .pointer _) rfl ⟨rfl, rfl, rfl⟩) ?_
    refine w_pg rfl rfl (fun _ _ => ok_nilCheck_ptr rfl ⟨rfl, rfl, rfl⟩) ?_
    refine w_pg rfl rfl (fun _ _ => ok_fieldAddr (fld rfl) rfl ⟨rfl, rfl, rfl⟩) ?_
    refine w_rg rfl rfl (fun _ _ hExt => ok_load (ty rfl) rfl (hExt _ _ hp') hp5 ⟨rfl, rfl, rfl⟩) ?_
    refine w_pg rfl rfl (fun _ _ => ok_eql_nil (sl rfl) rfl rfl ⟨rfl, rfl, rfl⟩) ?_
    refine w_pg rfl rfl (fun _ _ => ok_move (v := .bool _) rfl ⟨rfl, rfl, rfl⟩) ?_
    refine w_pg rfl rfl (fun _ _ => ok_move (v := .int _ _) rfl ⟨rfl, rfl, rfl⟩) ?_
    refine w_pg rfl rfl (fun _ _ => ok_move (v := .pointer _) rfl ⟨rfl, rfl, rfl⟩) ?_
    refine w_pg rfl rfl (fun _ _ => ok_nilCheck_ptr rfl ⟨rfl, rfl, rfl⟩) ?_
    refine w_pg rfl rfl (fun _ _ => ok_fieldAddr (fld rfl) rfl ⟨rfl, rfl, rfl⟩) ?_
    refine w_rg rfl rfl (fun _ _ hExt => ok_load (ty rfl) rfl (hExt _ _ hg') hg12 ⟨rfl, rfl, rfl⟩) ?_
    refine w_pg rfl rfl (fun _ _ => ok_geq rfl rfl ⟨rfl, rfl, rfl⟩) ?_
    refine w_pg rfl rfl (fun _ _ => ok_pick_true rfl rfl ⟨rfl, rfl, rfl⟩) ?_
    refine w_p rfl (fun _ _ => ok_pick_false rfl rfl ⟨rfl, rfl, rfl⟩) ?_
    refine w_p rfl (fun _ _ => ok_assign (v := .bool _) rfl ⟨rfl, rfl, rfl⟩) ?_
    refine w_nil ?_
    exact n_then ⟨rfl, rfl, rfl, trivial⟩
  rintro E h' N' D ⟨rfl, rfl, hE⟩
  refine n_then ?_
  refine c_ret ?_
  exact r_leave (leave_tmp rfl hE.1 ⟨rfl, hx⟩)

def sw (keep : Int) (i x y : Nat) : Nat := if keep ≤ (i : Int) then y else x
/-- A choice's cells, turned where the member comes behind keep. -/
def chc (keep : Int) (i a b c d : Nat) : Array Value := #[.int .i64 ((sw keep i a c : Nat) : Int), .int .i64 ((sw keep i b d : Nat) : Int), .int .i64 ((sw keep i c a : Nat) : Int), .int .i64 ((sw keep i d b : Nat) : Int)]
theorem oriented_ok {bp bg o i a b c d : Nat} {keep : Int} {pc gc : Array Value} {tp tg : TypeId} {fp fg : Nat × Nat} (hp : h bp = some (.cells pc tp fp)) (hp5 : pc[0 + 5]? = some (.slice none 0 0)) (hg : h bg = some (.cells gc tg fg)) (hg12 : gc[o + 12]? = some (.int .i64 keep)) :
    CallsX Ybaz.prog w0 35 #[.pointer (some ⟨bp, 0, none⟩), .pointer (some ⟨bg, o, none⟩), .int .i64 (i : Int), .agg #[.int .i64 (a : Int), .int .i64 (b : Int)], .agg #[.int .i64 (c : Int), .int .i64 (d : Int)]] h N
      (fun u h' _ => u = .agg (chc keep i a b c d) ∧ Ext h h') := by
  refine calls_of Ybaz.func35 rfl Ybaz.ntmps35 (Nat.le_of_ble_eq_true rfl) ?_
  refine c_seq ?_
  refine c_region (by kernel_rfl) ?_
  refine st (ok_box (v := .agg _) rfl rfl (fun hN8 => ?_))
  refine st (ok_box (v := .agg _) rfl rfl (fun hN9 => ?_))
  refine st (ok_alloc (ty rfl) rfl (fun hN10 => ?_))
  refine o_nil ?_
  refine n_then ?_
  have hx : Ext h (hset (hset (hset h N (.cells #[.int .i64 (a : Int), .int .i64 (b : Int)] 56 (0, 0))) (N + 1) (.cells #[.int .i64 (c : Int), .int .i64 (d : Int)] 56 (0, 0))) (N + 1 + 1) (.cells #[.int .i64 0, .int .i64 0, .int .i64 0, .int .i64 0] 58 (0, 0))) := ((Ext.push hN8 _).trans (Ext.push hN9 _)).trans (Ext.push hN10 _)
  have g8 : (hset (hset (hset h N (.cells #[.int .i64 (a : Int), .int .i64 (b : Int)] 56 (0, 0))) (N + 1) (.cells #[.int .i64 (c : Int), .int .i64 (d : Int)] 56 (0, 0))) (N + 1 + 1) (.cells #[.int .i64 0, .int .i64 0, .int .i64 0, .int .i64 0] 58 (0, 0))) N = some (.cells #[.int .i64 (a : Int), .int .i64 (b : Int)] 56 (0, 0)) := by
    rw [hset_ne _ _ (by omega), hset_ne _ _ (by omega)]; exact hset_same _ _ _
  have g9 : (hset (hset (hset h N (.cells #[.int .i64 (a : Int), .int .i64 (b : Int)] 56 (0, 0))) (N + 1) (.cells #[.int .i64 (c : Int), .int .i64 (d : Int)] 56 (0, 0))) (N + 1 + 1) (.cells #[.int .i64 0, .int .i64 0, .int .i64 0, .int .i64 0] 58 (0, 0))) (N + 1) = some (.cells #[.int .i64 (c : Int), .int .i64 (d : Int)] 56 (0, 0)) := by
    rw [hset_ne _ _ (by omega)]; exact hset_same _ _ _
  have g10 := hset_same (hset (hset h N (.cells #[.int .i64 (a : Int), .int .i64 (b : Int)] 56 (0, 0))) (N + 1) (.cells #[.int .i64 (c : Int), .int .i64 (d : Int)] 56 (0, 0))) (N + 1 + 1) (.cells #[.int .i64 0, .int .i64 0, .int .i64 0, .int .i64 0] 58 (0, 0))
  have n10 : h (N + 1 + 1) = none := hN8 _ (by omega)
  refine c_heap (fun h1 _ => Ext h h1 ∧ h1 N = some (.cells #[.int .i64 (a : Int), .int .i64 (b : Int)] 56 (0, 0)) ∧ h1 (N + 1) = some (.cells #[.int .i64 (c : Int), .int .i64 (d : Int)] 56 (0, 0)) ∧ h1 (N + 1 + 1) = some (.cells #[.int .i64 0, .int .i64 0, .int .i64 0, .int .i64 0] 58 (0, 0))) ⟨hx, g8, g9, g10⟩ ?_
  clear hx g8 g9 g10
  rintro h1 N1 ⟨hx, g8, g9, g10⟩
  refine c_seq ?_
  refine c_seq ?_
  refine c_region (by kernel_rfl) ?_
  refine st_q (ok_move (v := .pointer _) rfl ⟨rfl, rfl, rfl⟩) ?_
  refine st_q (ok_move (v := .pointer _) rfl ⟨rfl, rfl, rfl⟩) ?_
  refine st_q (ok_move (v := .int _ _) rfl ⟨rfl, rfl, rfl⟩) ?_
  refine st_q (ok_loadAgg (ty rfl) rfl g8 (Nat.le_of_ble_eq_true rfl) rfl ⟨rfl, rfl, rfl⟩) ?_
  refine st (ok_call rfl ent59 (triesSecond_ok (hx _ _ hp) hp5 (hx _ _ hg) hg12) rfl ?_)
  rintro _ h2 N2 ⟨rfl, hx2⟩
  refine o_nil ?_
  refine n_then ?_
  have hx3 := hx.trans hx2
  refine c_cond_prop rfl (fun hc => ?_) (fun hc => ?_)
  · skip
    refine c_seq ?_
    refine c_region (by kernel_rfl) ?_
    refine st_q (ok_loadAgg (ty rfl) rfl (hx2 _ _ g9) (Nat.le_of_ble_eq_true rfl) rfl ⟨rfl, rfl, rfl⟩) ?_
    refine st_q (ok_loadAgg (ty rfl) rfl (hx2 _ _ g8) (Nat.le_of_ble_eq_true rfl) rfl ⟨rfl, rfl, rfl⟩) ?_
    refine st_q (ok_build rfl (v := .agg #[.int .i64 (c : Int), .int .i64 (d : Int), .int .i64 (a : Int), .int .i64 (b : Int)]) (fun _ => by kernel_rfl) ⟨rfl, rfl, rfl⟩) ?_
    refine st0 (ok_storeL (ty rfl) rfl (v := .agg _) rfl rfl rfl rfl (hx2 _ _ g10) (Nat.le_of_ble_eq_true rfl) ?_)
    refine o_nil ?_
    refine n_then ?_
    refine c_ret ?_
    refine r_then (r_leave (leave_cell rfl (ty rfl) rfl (hset_same _ _ _) (Nat.le_of_ble_eq_true rfl) rfl ⟨?_, hx3.fresh n10 _⟩))
    rw [show chc keep i a b c d = #[.int .i64 (c : Int), .int .i64 (d : Int), .int .i64 (a : Int), .int .i64 (b : Int)] from by simp [chc, sw, hc]]; rfl
  · skip
    refine c_skip ?_
    refine n_then ?_
    refine c_seq ?_
    refine c_region (by kernel_rfl) ?_
    refine st_q (ok_loadAgg (ty rfl) rfl (hx2 _ _ g8) (Nat.le_of_ble_eq_true rfl) rfl ⟨rfl, rfl, rfl⟩) ?_
    refine st_q (ok_loadAgg (ty rfl) rfl (hx2 _ _ g9) (Nat.le_of_ble_eq_true rfl) rfl ⟨rfl, rfl, rfl⟩) ?_
    refine st_q (ok_build rfl (v := .agg #[.int .i64 (a : Int), .int .i64 (b : Int), .int .i64 (c : Int), .int .i64 (d : Int)]) (fun _ => by kernel_rfl) ⟨rfl, rfl, rfl⟩) ?_
    refine st0 (ok_storeL (ty rfl) rfl (v := .agg _) rfl rfl rfl rfl (hx2 _ _ g10) (Nat.le_of_ble_eq_true rfl) ?_)
    refine o_nil ?_
    refine n_then ?_
    refine c_ret ?_
    refine r_leave (leave_cell rfl (ty rfl) rfl (hset_same _ _ _) (Nat.le_of_ble_eq_true rfl) rfl ⟨?_, hx3.fresh n10 _⟩)
    rw [show chc keep i a b c d = #[.int .i64 (a : Int), .int .i64 (b : Int), .int .i64 (c : Int), .int .i64 (d : Int)] from by simp [chc, sw, hc]]; rfl

/-- A group, fourteen cells from place o on. -/
structure GC (gc : Array Value) (o : Nat) (x0 x1 y0 y1 : Nat) (f0 f1 e0 e1 : Bool) (bm L c : Nat) (k0 k1 keep : Int) (ab : Value) : Prop where
  sz : o + 14 ≤ gc.size
  g0 : gc[o + 0]? = some (.int .i64 (x0 : Int))
  g1 : gc[o + 1]? = some (.bool f0)
  g2 : gc[o + 2]? = some (.int .i64 (x1 : Int))
  g3 : gc[o + 3]? = some (.bool f1)
  g4 : gc[o + 4]? = some (.int .i64 (y0 : Int))
  g5 : gc[o + 5]? = some (.bool e0)
  g6 : gc[o + 6]? = some (.int .i64 (y1 : Int))
  g7 : gc[o + 7]? = some (.bool e1)
  g8 : gc[o + 8]? = some (.slice (some ⟨bm, 0, none⟩) L c)
  g10 : gc[o + 10]? = some (.int .i64 k0)
  g11 : gc[o + 11]? = some (.int .i64 k1)
  g12 : gc[o + 12]? = some (.int .i64 keep)
  g13 : gc[o + 13]? = some ab
theorem take2 {gc : Array Value} {o : Nat} {a b : Value} (ha : gc[o]? = some a) (hb : gc[o + 1]? = some b) : (gc.toList.drop o).take 2 = [a, b] := by
  apply List.ext_getElem?
  intro k
  rw [List.getElem?_take]
  match k with
  | 0 => simp [ha]
  | 1 => simp [hb]
  | k + 2 => rw [if_neg (by omega)]; simp
theorem take4 {gc : Array Value} {o : Nat} {a b c d : Value} (ha : gc[o]? = some a) (hb : gc[o + 1]? = some b) (hc : gc[o + 2]? = some c) (hd : gc[o + 3]? = some d) : (gc.toList.drop o).take 4 = [a, b, c, d] := by
  apply List.ext_getElem?
  intro k
  rw [List.getElem?_take]
  match k with
  | 0 => simp [ha]
  | 1 => simp [hb]
  | 2 => simp [hc]
  | 3 => simp [hd]
  | k + 4 => rw [if_neg (by omega)]; simp
theorem choice_ok {bp bg o i x0 x1 y0 y1 bm L c mm : Nat} {f0 f1 e0 e1 : Bool} {k0 k1 keep : Int} {ab : Value} {pc gc ms : Array Value} {tp tg tm : TypeId} {fp fg fm : Nat × Nat} (hp : h bp = some (.cells pc tp fp)) (hp5 : pc[0 + 5]? = some (.slice none 0 0)) (hg : h bg = some (.cells gc tg fg)) (hG : GC gc o x0 x1 y0 y1 f0 f1 e0 e1 bm L c k0 k1 keep ab)
    (hb : h bm = some (.cells ms tm fm)) (hm : ms[i]? = some (.int .i64 (mm : Int))) (hi : i < L) (b0 : x0 ≤ 1000) (b1 : x1 ≤ 1000) (b2 : y0 ≤ 1000) (b3 : y1 ≤ 1000) (b4 : mm ≤ 1000) :
    CallsX Ybaz.prog w0 17 #[.pointer (some ⟨bp, 0, none⟩), .pointer (some ⟨bg, o, none⟩), .int .i64 (i : Int)] h N (fun u h' _ => u = .agg (chc keep i (atN f0 x0 mm) (atN f1 x1 mm) (atN e0 y0 mm) (atN e1 y1 mm)) ∧ Ext h h') := by
  refine calls_of Ybaz.func17 rfl Ybaz.ntmps17 (Nat.le_of_ble_eq_true rfl) ?_
  refine c_seq ?_
  refine c_region (by kernel_rfl) ?_
  refine st (ok_alloc (ty rfl) rfl (fun hN6 => ?_))
  refine o_nil ?_
  refine n_then ?_
  have hx : Ext h (hset h N (.cells #[.int .i64 0, .int .i64 0, .int .i64 0, .int .i64 0] 58 (0, 0))) := Ext.push hN6 _
  have g6 := hset_same h N (.cells #[.int .i64 0, .int .i64 0, .int .i64 0, .int .i64 0] 58 (0, 0))
  have n6 : h N = none := hN6 _ (Nat.le_refl _)
  refine c_heap (fun h1 _ => Ext h h1 ∧ h1 N = some (.cells #[.int .i64 0, .int .i64 0, .int .i64 0, .int .i64 0] 58 (0, 0))) ⟨hx, g6⟩ ?_
  clear hx g6
  rintro h1 N1 ⟨hx, g6⟩
  have hg1 := hx _ _ hg
  have hz := hG.sz
  refine c_seq ?_
  refine c_region (by kernel_rfl) ?_
  refine st_q (ok_move (v := .pointer _) rfl ⟨rfl, rfl, rfl⟩) ?_
  refine st_q (ok_nilCheck_ptr rfl ⟨rfl, rfl, rfl⟩) ?_
  refine st_q (ok_fieldAddr (fld rfl) rfl ⟨rfl, rfl, rfl⟩) ?_
  refine st_q (ok_load (ty rfl) rfl hg1 hG.g8 ⟨rfl, rfl, rfl⟩) ?_
  refine st_q (ok_move (v := .int _ _) rfl ⟨rfl, rfl, rfl⟩) ?_
  refine st_q (ok_indexAddr (sl rfl) (ty rfl) rfl rfl (by omega) (by omega) (off := i) (by omega) ⟨rfl, rfl, rfl⟩) ?_
  refine st_q (ok_load (ty rfl) rfl (hx _ _ hb) hm ⟨rfl, rfl, rfl⟩) ?_
  refine st_q (ok_assign (v := .int _ _) rfl ⟨rfl, rfl, rfl⟩) ?_
  refine o_nil ?_
  refine n_then ?_
  refine c_seq ?_
  refine c_cut (fun E h' _ D => D = [] ∧ Ext h h' ∧ Fr E [(6, .pointer (some ⟨N, 0, none⟩))] ∧ h' N = some (.cells (chc keep i (atN f0 x0 mm) (atN f1 x1 mm) (atN e0 y0 mm) (atN e1 y1 mm)) 58 (0, 0))) ?_ ?_
  · skip
    refine c_draw mixed [0, 0, 0, 0, 0, 0, 0, 0, 0, 1, 0, 0, 0, 0, 0, 0, 1, 0, 0, 0, 0, 0, 0, 0, 1, 0, 0, 0, 0, 0, 0, 1, 0, 2, 2] 35 rfl [((0, 2), [((1, 2), [((2, 2), [((3, 2), [((4, 2), [((5, 2), [((6, 2), [((7, 1), [((8, 2), [((10, 2), [((11, 2), [((12, 2), [((13, 2), [((14, 1), [((15, 2), [((18, 2), [((19, 2), [((20, 2), [((21, 2), [((22, 1), [((23, 2), [((25, 2), [((26, 2), [((27, 2), [((28, 2), [((29, 1), [((30, 2), [((9, 0), [((16, 0), [((17, 2), [((24, 0), [((31, 0), [((32, 2), [((33, 0), [((34, 0), ())])])])])])])])])])])])])])])])])])])])])])])])])])])])])])])])])])])] (by kernel_rfl) (by kernel_rfl) ?_
    refine w_p rfl (fun _ _ => ok_move (v := .pointer _) rfl ⟨rfl, rfl, rfl⟩) ?_
    refine w_p rfl (fun _ _ => ok_move (v := .pointer _) rfl ⟨rfl, rfl, rfl⟩) ?_
    refine w_p rfl (fun _ _ => ok_move (v := .int _ _) rfl ⟨rfl, rfl, rfl⟩) ?_
    refine w_p rfl (fun _ _ => ok_move (v := .pointer _) rfl ⟨rfl, rfl, rfl⟩) ?_
    refine w_p rfl (fun _ _ => ok_nilCheck_ptr rfl ⟨rfl, rfl, rfl⟩) ?_
    refine w_p rfl (fun _ _ => ok_fieldAddr (fld rfl) rfl ⟨rfl, rfl, rfl⟩) ?_
    refine w_p rfl (fun _ _ => ok_indexAddrA (ar rfl) (ty rfl) rfl rfl (by omega) (by omega) (off := (o)) (by omega) ⟨rfl, rfl, rfl⟩) ?_
    refine w_r rfl (fun _ _ hExt => ok_loadAgg (ty rfl) rfl (hExt _ _ hg1) (by omega) (take2 hG.g0 hG.g1) ⟨rfl, rfl, rfl⟩) ?_
    refine w_p rfl (fun _ _ => ok_move (v := .int _ _) rfl ⟨rfl, rfl, rfl⟩) ?_
    refine w_p rfl (fun _ _ => ok_move (v := .pointer _) rfl ⟨rfl, rfl, rfl⟩) ?_
    refine w_p rfl (fun _ _ => ok_nilCheck_ptr rfl ⟨rfl, rfl, rfl⟩) ?_
    refine w_p rfl (fun _ _ => ok_fieldAddr (fld rfl) rfl ⟨rfl, rfl, rfl⟩) ?_
    refine w_p rfl (fun _ _ => ok_indexAddrA (ar rfl) (ty rfl) rfl rfl (by omega) (by omega) (off := (o + 2)) (by omega) ⟨rfl, rfl, rfl⟩) ?_
    refine w_r rfl (fun _ _ hExt => ok_loadAgg (ty rfl) rfl (hExt _ _ hg1) (by omega) (take2 hG.g2 hG.g3) ⟨rfl, rfl, rfl⟩) ?_
    refine w_p rfl (fun _ _ => ok_move (v := .int _ _) rfl ⟨rfl, rfl, rfl⟩) ?_
    refine w_p rfl (fun _ _ => ok_move (v := .pointer _) rfl ⟨rfl, rfl, rfl⟩) ?_
    refine w_p rfl (fun _ _ => ok_nilCheck_ptr rfl ⟨rfl, rfl, rfl⟩) ?_
    refine w_p rfl (fun _ _ => ok_fieldAddr (fld rfl) rfl ⟨rfl, rfl, rfl⟩) ?_
    refine w_p rfl (fun _ _ => ok_indexAddrA (ar rfl) (ty rfl) rfl rfl (by omega) (by omega) (off := (o + 4)) (by omega) ⟨rfl, rfl, rfl⟩) ?_
    refine w_r rfl (fun _ _ hExt => ok_loadAgg (ty rfl) rfl (hExt _ _ hg1) (by omega) (take2 hG.g4 hG.g5) ⟨rfl, rfl, rfl⟩) ?_
    refine w_p rfl (fun _ _ => ok_move (v := .int _ _) rfl ⟨rfl, rfl, rfl⟩) ?_
    refine w_p rfl (fun _ _ => ok_move (v := .pointer _) rfl ⟨rfl, rfl, rfl⟩) ?_
    refine w_p rfl (fun _ _ => ok_nilCheck_ptr rfl ⟨rfl, rfl, rfl⟩) ?_
    refine w_p rfl (fun _ _ => ok_fieldAddr (fld rfl) rfl ⟨rfl, rfl, rfl⟩) ?_
    refine w_p rfl (fun _ _ => ok_indexAddrA (ar rfl) (ty rfl) rfl rfl (by omega) (by omega) (off := (o + 6)) (by omega) ⟨rfl, rfl, rfl⟩) ?_
    refine w_r rfl (fun _ _ hExt => ok_loadAgg (ty rfl) rfl (hExt _ _ hg1) (by omega) (take2 hG.g6 hG.g7) ⟨rfl, rfl, rfl⟩) ?_
    refine w_p rfl (fun _ _ => ok_move (v := .int _ _) rfl ⟨rfl, rfl, rfl⟩) ?_
    refine w_e rfl (ok_call rfl ent16 (at_ok (by omega) (by omega)) rfl ?_)
    rintro _ h2 N2 ⟨rfl, rfl, rfl, hN24⟩
    refine ⟨.inr ⟨_, rfl, rfl⟩, ?_⟩
    refine w_e rfl (ok_call rfl ent16 (at_ok (by omega) (by omega)) rfl ?_)
    rintro _ h2 N2 ⟨rfl, rfl, rfl, hN31⟩
    refine ⟨.inr ⟨_, rfl, rfl⟩, ?_⟩
    refine w_p rfl (fun _ _ => ok_build rfl (v := .agg #[.int .i64 ((atN f0 x0 mm : Nat) : Int), .int .i64 ((atN f1 x1 mm : Nat) : Int)]) (fun _ => by kernel_rfl) ⟨rfl, rfl, rfl⟩) ?_
    refine w_e rfl (ok_call rfl ent16 (at_ok (by omega) (by omega)) rfl ?_)
    rintro _ h2 N2 ⟨rfl, rfl, rfl, hN39⟩
    refine ⟨.inr ⟨_, rfl, rfl⟩, ?_⟩
    refine w_e rfl (ok_call rfl ent16 (at_ok (by omega) (by omega)) rfl ?_)
    rintro _ h2 N2 ⟨rfl, rfl, rfl, hN46⟩
    refine ⟨.inr ⟨_, rfl, rfl⟩, ?_⟩
    refine w_p rfl (fun _ _ => ok_build rfl (v := .agg #[.int .i64 ((atN e0 y0 mm : Nat) : Int), .int .i64 ((atN e1 y1 mm : Nat) : Int)]) (fun _ => by kernel_rfl) ⟨rfl, rfl, rfl⟩) ?_
    have hx4 := (((Ext.push hN24 (.cells #[.int .i64 (x0 : Int), .bool f0] 46 (0, 0))).trans (Ext.push hN31 (.cells #[.int .i64 (x1 : Int), .bool f1] 46 (0, 0)))).trans (Ext.push hN39 (.cells #[.int .i64 (y0 : Int), .bool e0] 46 (0, 0)))).trans (Ext.push hN46 (.cells #[.int .i64 (y1 : Int), .bool e1] 46 (0, 0))); refine w_e rfl (ok_call rfl ent35 (oriented_ok (hx4 _ _ (hx _ _ hp)) hp5 (hx4 _ _ hg1) hG.g12) rfl ?_); rintro _ h3 N3 ⟨rfl, hx5⟩; refine ⟨trivial, ?_⟩
    refine w_e0 rfl (ok_storeL (ty rfl) rfl (v := .agg _) rfl rfl rfl rfl (hx5 _ _ (hx4 _ _ g6)) (Nat.le_of_ble_eq_true rfl) ⟨trivial, ?_⟩)
    refine w_nil ?_
    exact n_then ⟨rfl, ((hx.trans hx4).trans hx5).fresh n6 _, ⟨rfl, trivial⟩, hset_same _ _ _⟩
  rintro E h' N' D ⟨rfl, hx9, hE, g9⟩
  refine n_then ?_
  refine c_ret ?_
  exact r_leave (leave_cell rfl (ty rfl) hE.1 g9 (Nat.le_of_ble_eq_true rfl) rfl ⟨rfl, hx9⟩)
end
end Sx
end Go.Proofs.YbulkcsqkGreat
