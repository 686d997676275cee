import Derived.Test.YbulkcsqkGreatSxLawA
namespace Go.Proofs.YbulkcsqkGreat
namespace Sx
set_option maxRecDepth 10000
set_option maxHeartbeats 4000000
variable {w0 : World}
section
variable {h : Hp} {N : Nat}
theorem law_ok {n0 sp le ce lg cg : Nat} {ae ag : Option Addr} {raw : Bool} {be0 oe bg0 og : Nat} {ec gc0 : Array Value} {te tg : TypeId} {fe fg : Nat × Nat} {e0 e1 : Nat → Nat} {rg : Nat → RawG} (hn0 : n0 < 256) (hst : sp < 256)
    (hes : ∀ j, j < le → ae = some ⟨be0, oe, none⟩ ∧ h be0 = some (.cells ec te fe) ∧ oe + j * 2 + 2 ≤ ec.size ∧ (ec.toList.drop (oe + j * 2)).take 2 = [.int .u8 ((e0 j : Nat) : Int), .int .u8 ((e1 j : Nat) : Int)] ∧ e0 j ≤ 255 ∧ e1 j ≤ 255)
    (hgs : ∀ k, k < lg → ag = some ⟨bg0, og, none⟩ ∧ h bg0 = some (.cells gc0 tg fg) ∧ RawAt h gc0 (og + k * 11) (rg k)) :
    CallsX Ybaz.prog w0 3 #[.int .u8 (n0 : Int), .slice ae le ce, .bool raw, .slice ag lg cg, .int .u8 (sp : Int)] h N (fun u h' _ => u = .bool true ∧ Ext h h') := by
  refine calls_of Ybaz.func3 rfl Ybaz.ntmps3 (Nat.le_of_ble_eq_true rfl) ?_
  refine c_seq ?_
  refine c_region (by kernel_rfl) ?_
  refine st (ok_box (v := .int _ _) rfl rfl (fun hN9 => ?_))
  refine st_q (ok_assign (v := .bool _) rfl ⟨rfl, rfl, rfl⟩) ?_
  refine o_nil ?_
  refine n_then ?_
  refine c_heap (fun h' _ => ∃ X, Sep (fun _ => none) X h' ∧ Ext h X ∧ X N = some (.cells #[.int .u8 (sp : Int)] 5 (0, 0))) ⟨_, (Sep.start h).newX (hN9 _ (Nat.le_refl _)) _, Ext.push hN9 _, hset_same _ _ _⟩ ?_
  rintro h1 N1 ⟨X, hS, hX, x9⟩
  refine c_seq ?_
  refine c_seq ?_
  refine c_cut (fun E h' N' D => D = [] ∧ h' = h1 ∧ N' = N1 ∧ Fr E [(51, .bool (decide (1024 < le ∨ 256 < lg))), (0, .int .u8 (n0 : Int)), (1, .slice ae le ce), (2, .bool raw), (3, .slice ag lg cg), (9, .pointer (some ⟨N, 0, none⟩))]) ?_ ?_
  · by_cases hle : 1024 < le
    · skip
      refine c_region (by kernel_rfl) ?_
      refine st_q (ok_move (v := .slice _ _ _) rfl ⟨rfl, rfl, rfl⟩) ?_
      refine st_q (ok_len (sl rfl) rfl ⟨rfl, rfl, rfl⟩) ?_
      refine st_q (ok_gtr_t rfl rfl ((by omega)) ⟨rfl, rfl, rfl⟩) ?_
      refine st_q (ok_move (v := .bool _) rfl ⟨rfl, rfl, rfl⟩) ?_
      refine st_s rfl ?_
      refine st_s rfl ?_
      refine st_s rfl ?_
      refine st_q (ok_pick_true rfl rfl ⟨rfl, rfl, rfl⟩) ?_
      refine o_nil ?_
      refine n_then ⟨rfl, rfl, rfl, ?_, rfl, rfl, rfl, rfl, rfl, trivial⟩
      show Value.bool true = _
      simp [hle]
    · skip
      refine c_region (by kernel_rfl) ?_
      refine st_q (ok_move (v := .slice _ _ _) rfl ⟨rfl, rfl, rfl⟩) ?_
      refine st_q (ok_len (sl rfl) rfl ⟨rfl, rfl, rfl⟩) ?_
      refine st_q (ok_gtr_f rfl rfl ((by omega)) ⟨rfl, rfl, rfl⟩) ?_
      refine st_q (ok_move (v := .bool _) rfl ⟨rfl, rfl, rfl⟩) ?_
      refine st_g rfl (ok_move (v := .slice _ _ _) rfl ⟨rfl, rfl, rfl⟩) ?_
      refine st_g rfl (ok_len (sl rfl) rfl ⟨rfl, rfl, rfl⟩) ?_
      refine st_g rfl (ok_gtr rfl rfl ⟨rfl, rfl, rfl⟩) ?_
      refine st_q (ok_pick_false rfl rfl ⟨rfl, rfl, rfl⟩) ?_
      refine o_nil ?_
      refine n_then ⟨rfl, rfl, rfl, ?_, rfl, rfl, rfl, rfl, rfl, trivial⟩
      show Value.bool (decide ((256 : Int) < (lg : Int))) = _
      congr 1
      rw [Bool.eq_iff_iff, decide_eq_true_eq, decide_eq_true_eq]
      omega
  rintro E h2 N2 D ⟨rfl, rfl, rfl, hE⟩
  obtain ⟨E0, rfl⟩ := hE.ex
  refine n_then ?_
  refine c_cond_prop rfl (fun hc => ?_) (fun hc => ?_)
  · skip
    refine c_seq ?_
    refine c_region (by kernel_rfl) ?_
    refine st_q (ok_assign (v := .bool _) rfl ⟨rfl, rfl, rfl⟩) ?_
    refine o_nil ?_
    refine n_then ?_
    refine c_ret ?_
    exact r_then (r_leave (leave_tmp rfl rfl ⟨rfl, hX.trans hS.oth⟩))
  refine c_skip ?_
  refine n_then ?_
  have hle : le ≤ 1024 := by omega
  have hlg : lg ≤ 256 := by omega
  clear hc
  refine c_seq ?_
  refine c_seq ?_
  refine c_region (by kernel_rfl) ?_
  refine st_q (ok_move (v := .slice _ _ _) rfl ⟨rfl, rfl, rfl⟩) ?_
  refine st_q (ok_len (sl rfl) rfl ⟨rfl, rfl, rfl⟩) ?_
  refine st_q (ok_move (v := .int _ _) rfl ⟨rfl, rfl, rfl⟩) ?_
  refine o_nil ?_
  refine n_then ?_
  refine c_cutX (fun E h' N' D => D = [] ∧ h' = h2 ∧ N' = N2 ∧ (∀ k, k < lg → (rg k).ms.length ≤ 1024) ∧ Fr E [(0, .int .u8 (n0 : Int)), (1, .slice ae le ce), (2, .bool raw), (3, .slice ag lg cg), (9, .pointer (some ⟨N, 0, none⟩))]) ?_ ?_
  · skip
    refine c_block ?_
    refine c_loop (fun k E h' N' D => D = [] ∧ h' = h2 ∧ N' = N2 ∧ k ≤ lg ∧ (∀ q, q < lg - k → (rg q).ms.length ≤ 1024) ∧ Fr E [(0, .int .u8 (n0 : Int)), (1, .slice ae le ce), (2, .bool raw), (3, .slice ag lg cg), (9, .pointer (some ⟨N, 0, none⟩)), (53, .int .i64 (lg : Int)), (54, .int .i64 ((lg - k : Nat) : Int))]) (k := lg) ⟨rfl, rfl, rfl, Nat.le_refl _, fun q hq => by omega, rfl, rfl, rfl, rfl, rfl, rfl, by rw [Nat.sub_self]; rfl, trivial⟩ ?_
    rintro k E h3 N3 D ⟨rfl, rfl, rfl, hk, hms, hE⟩
    obtain ⟨E1, rfl⟩ := hE.ex
    refine c_seq ?_
    refine c_region (by kernel_rfl) ?_
    refine st_q (ok_lss rfl rfl ⟨rfl, rfl, rfl⟩) ?_
    refine o_nil ?_
    refine n_then ?_
    refine c_seq ?_
    refine c_cond_prop rfl (fun hc => ?_) (fun hc => ?_)
    · skip
      generalize hq : lg - k = q at *
      obtain ⟨rfl, gb, hraw⟩ := hgs q (by omega)
      obtain ⟨am, cm, g6, _⟩ := hraw.c6
      refine c_skip ?_
      refine n_then ?_
      refine c_seq ?_
      refine c_block ?_
      refine c_seq ?_
      refine c_region (by kernel_rfl) ?_
      refine st_q (ok_move (v := .int _ _) rfl ⟨rfl, rfl, rfl⟩) ?_
      refine st_q (ok_assign (v := .int _ _) rfl ⟨rfl, rfl, rfl⟩) ?_
      refine o_nil ?_
      refine n_then ?_
      refine c_seq ?_
      refine c_region (by kernel_rfl) ?_
      refine st_q (ok_move (v := .slice _ _ _) rfl ⟨rfl, rfl, rfl⟩) ?_
      refine st_q (ok_move (v := .int _ _) rfl ⟨rfl, rfl, rfl⟩) ?_
      refine st_q (ok_indexAddr (sl rfl) (ty rfl) rfl rfl (by omega) (by omega) (off := (og + q * 11)) (by omega) ⟨rfl, rfl, rfl⟩) ?_
      refine st_q (ok_fieldAddr (fld rfl) rfl ⟨rfl, rfl, rfl⟩) ?_
      refine st_q (ok_load (ty rfl) rfl ((hX.trans hS.oth) _ _ gb) g6 ⟨rfl, rfl, rfl⟩) ?_
      refine st_q (ok_len (sl rfl) rfl ⟨rfl, rfl, rfl⟩) ?_
      refine st_q (ok_gtr rfl rfl ⟨rfl, rfl, rfl⟩) ?_
      refine o_nil ?_
      refine n_then ?_
      refine c_cond_prop rfl (fun hc2 => ?_) (fun hc2 => ?_)
      · skip
        refine c_seq ?_
        refine c_region (by kernel_rfl) ?_
        refine st_q (ok_assign (v := .bool _) rfl ⟨rfl, rfl, rfl⟩) ?_
        refine o_nil ?_
        refine n_then ?_
        refine c_ret ?_
        exact r_block (r_then (r_then (r_block (r_then (r_then (r_leave (leave_tmp rfl rfl ⟨rfl, hX.trans hS.oth⟩)))))))
      · skip
        refine c_skip ?_
        refine n_block (n_then ?_)
        refine c_region (by kernel_rfl) ?_
        refine st_q (ok_add rfl rfl (by omega) (by omega) ⟨rfl, rfl, rfl⟩) ?_
        refine st_q (ok_move (v := .int _ _) rfl ⟨rfl, rfl, rfl⟩) ?_
        refine o_nil ?_
        refine n_then ⟨k - 1, by omega, rfl, rfl, rfl, by omega, fun p hp => ?_, rfl, rfl, rfl, rfl, rfl, rfl, ?_, trivial⟩
        · by_cases e : p = q
          · rw [e]; omega
          · exact hms p (by omega)
        · show Value.int .i64 ((q : Int) + 1) = _
          congr 1; omega
    · skip
      refine c_exit ?_
      refine x_then (x_then (x_block (n_then ⟨rfl, rfl, rfl, fun q hq => hms q (by omega), rfl, rfl, rfl, rfl, rfl, trivial⟩)))
  rintro E h3 N3 D ⟨rfl, rfl, rfl, hms, hE⟩
  obtain ⟨E1, rfl⟩ := hE.ex
  refine n_then ?_
  obtain ⟨n, hnd⟩ : ∃ n, n = 1 + n0 % 80 := ⟨_, rfl⟩
  have hn1 : 0 < n := by omega
  have hn : n ≤ 80 := by omega
  refine c_seq ?_
  refine c_cut (fun E h' N' D => D = [] ∧ h' = h3 ∧ N' = N3 ∧ Fr E [(1, .slice ae le ce), (2, .bool raw), (3, .slice ag lg cg), (9, .pointer (some ⟨N, 0, none⟩)), (12, .int .i64 (n : Int))]) ?_ ?_
  · skip
    refine c_region (by kernel_rfl) ?_
    refine st_q (ok_move (v := .int _ _) rfl ⟨rfl, rfl, rfl⟩) ?_
    refine st_q (ok_convert (ik rfl) (ik rfl) rfl (wrap_i64 (by omega) (by omega)) ⟨rfl, rfl, rfl⟩) ?_
    refine st_q (ok_rem rfl rfl (by omega) (by omega) ⟨rfl, rfl, rfl⟩) ?_
    refine st_q (ok_add rfl rfl (by omega) (by omega) ⟨rfl, rfl, rfl⟩) ?_
    refine st_q (ok_assign (v := .int _ _) rfl ⟨rfl, rfl, rfl⟩) ?_
    refine o_nil ?_
    refine n_then ⟨rfl, rfl, rfl, rfl, rfl, rfl, rfl, ?_, trivial⟩
    show Value.int .i64 (1 + (n0 : Int) % 80) = _
    congr 1; omega
  rintro E h4 N4 D ⟨rfl, rfl, rfl, hE⟩
  obtain ⟨E2, rfl⟩ := hE.ex
  refine n_then ?_
  clear hn0 hnd
  refine c_seq ?_
  refine c_cut (fun E h' _ D => D = [] ∧ ∃ bn be bp, bn ≠ be ∧ bn ≠ bp ∧ be ≠ bp ∧ h4 bn = none ∧ h4 be = none ∧ h4 bp = none ∧ Ext h4 h' ∧ h' bn = some (.cells (madeCells #[.string ⟨#[]⟩] (n * 1)) 9 (0, 0)) ∧ h' be = some (.cells (madeCells #[.map none] (n * 1)) 65 (0, 0)) ∧ h' bp = some (.cells (pcells bn be n (.slice none 0 0)) 39 (0, 0)) ∧
      Fr E [(1, .slice ae le ce), (2, .bool raw), (3, .slice ag lg cg), (9, .pointer (some ⟨N, 0, none⟩)), (12, .int .i64 (n : Int)), (13, .pointer (some ⟨bp, 0, none⟩))]) ?_ ?_
  · skip
    refine c_draw mixed [0, 1, 0, 1, 0, 1, 2] 7 rfl [((0, 2), [((2, 2), [((1, 0), [((3, 0), [((4, 2), [((5, 0), [((6, 0), ())])])]), ((5, 0), [((3, 0), [((4, 2), [((6, 0), ())])])])]), ((3, 0), [((1, 0), [((4, 2), [((5, 0), [((6, 0), ())])])]), ((5, 0), [((1, 0), [((4, 2), [((6, 0), ())])])])]), ((5, 0), [((1, 0), [((3, 0), [((4, 2), [((6, 0), ())])])]), ((3, 0), [((1, 0), [((4, 2), [((6, 0), ())])])])])])])] (by kernel_rfl) (by kernel_rfl) ?_
    refine w_p rfl (fun _ _ => ok_move (v := .int _ _) rfl ⟨rfl, rfl, rfl⟩) ?_
    refine w_p rfl (fun _ _ => ok_move (v := .int _ _) rfl ⟨rfl, rfl, rfl⟩) ?_
    refine w_cons ?_ (w_cons ?_ (w_cons ?_ (w_none)))
    · skip
      refine w_e rfl (ok_makeSlice (sl rfl) (ty rfl) rfl rfl (by omega) (by omega) (by omega) (by omega) (l' := n) (c' := n) (by omega) (by omega) (fun hN70 => ⟨.inr ⟨_, rfl, rfl⟩, ?_⟩))
      refine w_cons ?_ (w_cons ?_ (w_none))
      · skip
        refine w_e rfl (ok_makeSlice (sl rfl) (ty rfl) rfl rfl (by omega) (by omega) (by omega) (by omega) (l' := n) (c' := n) (by omega) (by omega) (fun hN72 => ⟨.inr ⟨_, rfl, rfl⟩, ?_⟩))
        refine w_p rfl (fun _ _ => ok_build rfl (v := .agg (pcells (N4) (N4 + 1) n (.slice none 0 0))) (fun _ => by kernel_rfl) ⟨rfl, rfl, rfl⟩) ?_
        refine w_e rfl (ok_alloc (ty rfl) rfl (fun hN13 => ⟨.inr ⟨_, rfl, rfl⟩, ?_⟩))
        refine w_e0 rfl (ok_storeL (ty rfl) rfl (v := .agg _) rfl rfl rfl rfl (by (repeat rw [hset_ne _ _ (by omega)]); exact hset_same _ _ _) (Nat.le_of_ble_eq_true rfl) ⟨trivial, ?_⟩)
        refine w_nil ?_
        have hf : ∀ b, N4 ≤ b → h4 b = none := (by first | exact hN70 | exact hN72 | exact hN13); refine n_then ⟨rfl, N4, N4 + 1, N4 + 1 + 1, by omega, by omega, by omega, hf _ (by omega), hf _ (by omega), hf _ (by omega), ((((Ext.refl h4).fresh (hf _ (by omega)) _).fresh (hf _ (by omega)) _).fresh (hf _ (by omega)) _).fresh (hf _ (by omega)) _, by (repeat rw [hset_ne _ _ (by omega)]); exact hset_same _ _ _, by (repeat rw [hset_ne _ _ (by omega)]); exact hset_same _ _ _, hset_same _ _ _, rfl, rfl, rfl, rfl, rfl, rfl, trivial⟩
      · skip
        refine w_e rfl (ok_alloc (ty rfl) rfl (fun hN13 => ⟨.inr ⟨_, rfl, rfl⟩, ?_⟩))
        refine w_e rfl (ok_makeSlice (sl rfl) (ty rfl) rfl rfl (by omega) (by omega) (by omega) (by omega) (l' := n) (c' := n) (by omega) (by omega) (fun hN72 => ⟨.inr ⟨_, rfl, rfl⟩, ?_⟩))
        refine w_p rfl (fun _ _ => ok_build rfl (v := .agg (pcells (N4) (N4 + 1 + 1) n (.slice none 0 0))) (fun _ => by kernel_rfl) ⟨rfl, rfl, rfl⟩) ?_
        refine w_e0 rfl (ok_storeL (ty rfl) rfl (v := .agg _) rfl rfl rfl rfl (by (repeat rw [hset_ne _ _ (by omega)]); exact hset_same _ _ _) (Nat.le_of_ble_eq_true rfl) ⟨trivial, ?_⟩)
        refine w_nil ?_
        have hf : ∀ b, N4 ≤ b → h4 b = none := (by first | exact hN70 | exact hN72 | exact hN13); refine n_then ⟨rfl, N4, N4 + 1 + 1, N4 + 1, by omega, by omega, by omega, hf _ (by omega), hf _ (by omega), hf _ (by omega), ((((Ext.refl h4).fresh (hf _ (by omega)) _).fresh (hf _ (by omega)) _).fresh (hf _ (by omega)) _).fresh (hf _ (by omega)) _, by (repeat rw [hset_ne _ _ (by omega)]); exact hset_same _ _ _, by (repeat rw [hset_ne _ _ (by omega)]); exact hset_same _ _ _, hset_same _ _ _, rfl, rfl, rfl, rfl, rfl, rfl, trivial⟩
    · skip
      refine w_e rfl (ok_makeSlice (sl rfl) (ty rfl) rfl rfl (by omega) (by omega) (by omega) (by omega) (l' := n) (c' := n) (by omega) (by omega) (fun hN72 => ⟨.inr ⟨_, rfl, rfl⟩, ?_⟩))
      refine w_cons ?_ (w_cons ?_ (w_none))
      · skip
        refine w_e rfl (ok_makeSlice (sl rfl) (ty rfl) rfl rfl (by omega) (by omega) (by omega) (by omega) (l' := n) (c' := n) (by omega) (by omega) (fun hN70 => ⟨.inr ⟨_, rfl, rfl⟩, ?_⟩))
        refine w_p rfl (fun _ _ => ok_build rfl (v := .agg (pcells (N4 + 1) (N4) n (.slice none 0 0))) (fun _ => by kernel_rfl) ⟨rfl, rfl, rfl⟩) ?_
        refine w_e rfl (ok_alloc (ty rfl) rfl (fun hN13 => ⟨.inr ⟨_, rfl, rfl⟩, ?_⟩))
        refine w_e0 rfl (ok_storeL (ty rfl) rfl (v := .agg _) rfl rfl rfl rfl (by (repeat rw [hset_ne _ _ (by omega)]); exact hset_same _ _ _) (Nat.le_of_ble_eq_true rfl) ⟨trivial, ?_⟩)
        refine w_nil ?_
        have hf : ∀ b, N4 ≤ b → h4 b = none := (by first | exact hN70 | exact hN72 | exact hN13); refine n_then ⟨rfl, N4 + 1, N4, N4 + 1 + 1, by omega, by omega, by omega, hf _ (by omega), hf _ (by omega), hf _ (by omega), ((((Ext.refl h4).fresh (hf _ (by omega)) _).fresh (hf _ (by omega)) _).fresh (hf _ (by omega)) _).fresh (hf _ (by omega)) _, by (repeat rw [hset_ne _ _ (by omega)]); exact hset_same _ _ _, by (repeat rw [hset_ne _ _ (by omega)]); exact hset_same _ _ _, hset_same _ _ _, rfl, rfl, rfl, rfl, rfl, rfl, trivial⟩
      · skip
        refine w_e rfl (ok_alloc (ty rfl) rfl (fun hN13 => ⟨.inr ⟨_, rfl, rfl⟩, ?_⟩))
        refine w_e rfl (ok_makeSlice (sl rfl) (ty rfl) rfl rfl (by omega) (by omega) (by omega) (by omega) (l' := n) (c' := n) (by omega) (by omega) (fun hN70 => ⟨.inr ⟨_, rfl, rfl⟩, ?_⟩))
        refine w_p rfl (fun _ _ => ok_build rfl (v := .agg (pcells (N4 + 1 + 1) (N4) n (.slice none 0 0))) (fun _ => by kernel_rfl) ⟨rfl, rfl, rfl⟩) ?_
        refine w_e0 rfl (ok_storeL (ty rfl) rfl (v := .agg _) rfl rfl rfl rfl (by (repeat rw [hset_ne _ _ (by omega)]); exact hset_same _ _ _) (Nat.le_of_ble_eq_true rfl) ⟨trivial, ?_⟩)
        refine w_nil ?_
        have hf : ∀ b, N4 ≤ b → h4 b = none := (by first | exact hN70 | exact hN72 | exact hN13); refine n_then ⟨rfl, N4 + 1 + 1, N4, N4 + 1, by omega, by omega, by omega, hf _ (by omega), hf _ (by omega), hf _ (by omega), ((((Ext.refl h4).fresh (hf _ (by omega)) _).fresh (hf _ (by omega)) _).fresh (hf _ (by omega)) _).fresh (hf _ (by omega)) _, by (repeat rw [hset_ne _ _ (by omega)]); exact hset_same _ _ _, by (repeat rw [hset_ne _ _ (by omega)]); exact hset_same _ _ _, hset_same _ _ _, rfl, rfl, rfl, rfl, rfl, rfl, trivial⟩
    · skip
      refine w_e rfl (ok_alloc (ty rfl) rfl (fun hN13 => ⟨.inr ⟨_, rfl, rfl⟩, ?_⟩))
      refine w_cons ?_ (w_cons ?_ (w_none))
      · skip
        refine w_e rfl (ok_makeSlice (sl rfl) (ty rfl) rfl rfl (by omega) (by omega) (by omega) (by omega) (l' := n) (c' := n) (by omega) (by omega) (fun hN70 => ⟨.inr ⟨_, rfl, rfl⟩, ?_⟩))
        refine w_e rfl (ok_makeSlice (sl rfl) (ty rfl) rfl rfl (by omega) (by omega) (by omega) (by omega) (l' := n) (c' := n) (by omega) (by omega) (fun hN72 => ⟨.inr ⟨_, rfl, rfl⟩, ?_⟩))
        refine w_p rfl (fun _ _ => ok_build rfl (v := .agg (pcells (N4 + 1) (N4 + 1 + 1) n (.slice none 0 0))) (fun _ => by kernel_rfl) ⟨rfl, rfl, rfl⟩) ?_
        refine w_e0 rfl (ok_storeL (ty rfl) rfl (v := .agg _) rfl rfl rfl rfl (by (repeat rw [hset_ne _ _ (by omega)]); exact hset_same _ _ _) (Nat.le_of_ble_eq_true rfl) ⟨trivial, ?_⟩)
        refine w_nil ?_
        have hf : ∀ b, N4 ≤ b → h4 b = none := (by first | exact hN70 | exact hN72 | exact hN13); refine n_then ⟨rfl, N4 + 1, N4 + 1 + 1, N4, by omega, by omega, by omega, hf _ (by omega), hf _ (by omega), hf _ (by omega), ((((Ext.refl h4).fresh (hf _ (by omega)) _).fresh (hf _ (by omega)) _).fresh (hf _ (by omega)) _).fresh (hf _ (by omega)) _, by (repeat rw [hset_ne _ _ (by omega)]); exact hset_same _ _ _, by (repeat rw [hset_ne _ _ (by omega)]); exact hset_same _ _ _, hset_same _ _ _, rfl, rfl, rfl, rfl, rfl, rfl, trivial⟩
      · skip
        refine w_e rfl (ok_makeSlice (sl rfl) (ty rfl) rfl rfl (by omega) (by omega) (by omega) (by omega) (l' := n) (c' := n) (by omega) (by omega) (fun hN72 => ⟨.inr ⟨_, rfl, rfl⟩, ?_⟩))
        refine w_e rfl (ok_makeSlice (sl rfl) (ty rfl) rfl rfl (by omega) (by omega) (by omega) (by omega) (l' := n) (c' := n) (by omega) (by omega) (fun hN70 => ⟨.inr ⟨_, rfl, rfl⟩, ?_⟩))
        refine w_p rfl (fun _ _ => ok_build rfl (v := .agg (pcells (N4 + 1 + 1) (N4 + 1) n (.slice none 0 0))) (fun _ => by kernel_rfl) ⟨rfl, rfl, rfl⟩) ?_
        refine w_e0 rfl (ok_storeL (ty rfl) rfl (v := .agg _) rfl rfl rfl rfl (by (repeat rw [hset_ne _ _ (by omega)]); exact hset_same _ _ _) (Nat.le_of_ble_eq_true rfl) ⟨trivial, ?_⟩)
        refine w_nil ?_
        have hf : ∀ b, N4 ≤ b → h4 b = none := (by first | exact hN70 | exact hN72 | exact hN13); refine n_then ⟨rfl, N4 + 1 + 1, N4 + 1, N4, by omega, by omega, by omega, hf _ (by omega), hf _ (by omega), hf _ (by omega), ((((Ext.refl h4).fresh (hf _ (by omega)) _).fresh (hf _ (by omega)) _).fresh (hf _ (by omega)) _).fresh (hf _ (by omega)) _, by (repeat rw [hset_ne _ _ (by omega)]); exact hset_same _ _ _, by (repeat rw [hset_ne _ _ (by omega)]); exact hset_same _ _ _, hset_same _ _ _, rfl, rfl, rfl, rfl, rfl, rfl, trivial⟩
  rintro E h5 N5 D ⟨rfl, bn, be, bp, q1, q2, q3, f1, f2, f3, hx5, gn, ge, gp, hE⟩
  obtain ⟨E3, rfl⟩ := hE.ex
  refine n_then ?_
  have xbn : X bn = none := hS.oth.back f1
  have xbp : X bp = none := hS.oth.back f3
  have hbph : h bp = none := hX.back xbp
  refine c_heap (fun h' _ => ∃ m X1, Sep m X1 h' ∧ Ext X X1 ∧ X1 bp = some (.cells (pcells bn be n (.slice none 0 0)) 39 (0, 0)) ∧ ES m be n (fun _ => none) (fun _ => [])) ⟨_, _, sepC hS (fun e => q1 e.symm) q3 f2 hx5 ge gn gp, ((Ext.refl X).fresh xbn _).fresh xbp _, hset_same _ _ _, ⟨⟨_, hset_same _ _ _, made_size, made_get⟩, fun _ _ _ => rfl, fun _ _ _ e => (by cases e), fun _ _ _ _ _ e => (by cases e)⟩⟩ ?_
  clear hS hx5 gn ge gp f1 f2 f3 xbn xbp
  rintro h5 N5 ⟨m, X1, hS, hXX, x13, hES⟩
  have hX1 := hX.trans hXX
  have x9 := hXX _ _ x9
  clear hX hXX
  refine c_seq ?_
  refine c_region (by kernel_rfl) ?_
  refine st_q (ok_move (v := .int _ _) rfl ⟨rfl, rfl, rfl⟩) ?_
  refine st (ok_makeSlice (sl rfl) (ty rfl) rfl rfl (by omega) (by omega) (by omega) (by omega) (l' := n) (c' := n) (by omega) (by omega) (fun hN75 => ?_))
  refine st_q (ok_assign (v := .slice _ _ _) rfl ⟨rfl, rfl, rfl⟩) ?_
  refine o_nil ?_
  refine n_then ?_
  have x1br : X1 N5 = none := hS.oth.back (hN75 _ (Nat.le_refl _))
  refine c_heap (fun h' _ => ∃ X2, Sep m X2 h' ∧ Ext X1 X2 ∧ BM X2 N5 n 0 (fun _ => 0) (fun a b => decide (a = b))) ⟨_, hS.newX (hN75 _ (Nat.le_refl _)) _, (Ext.refl X1).fresh x1br _, ⟨⟨_, hset_same _ _ _, made_size, fun i hi => absurd hi (Nat.not_lt_zero i)⟩, fun i hi => absurd hi (Nat.not_lt_zero i), fun i _ hi => absurd hi (Nat.not_lt_zero i)⟩⟩ ?_
  clear hS
  rintro h6 N6 ⟨X2, hS, hX12, hBM⟩
  refine c_seq ?_
  refine c_seq ?_
  refine c_region (by kernel_rfl) ?_
  refine st_q (ok_assign (v := .int _ _) rfl ⟨rfl, rfl, rfl⟩) ?_
  refine o_nil ?_
  refine n_then ?_
  refine c_cut (fun E h' _ D => D = [] ∧ (∃ X V, Sep m X h' ∧ Ext X1 X ∧ BM X N5 n n V (fun a b => decide (a = b)) ∧ ∀ a, a < n → h (V a) = none) ∧ Fr E [(1, .slice ae le ce), (2, .bool raw), (3, .slice ag lg cg), (9, .pointer (some ⟨N, 0, none⟩)), (12, .int .i64 (n : Int)), (13, .pointer (some ⟨bp, 0, none⟩)), (14, .slice (some ⟨N5, 0, none⟩) n n)]) ?_ ?_
  · skip
    refine c_block ?_
    refine c_loop (fun k E h' _ D => D = [] ∧ k ≤ n ∧ (∃ X V, Sep m X h' ∧ Ext X1 X ∧ BM X N5 n (n - k) V (fun a b => decide (a = b)) ∧ ∀ a, a < n - k → h (V a) = none) ∧ Fr E [(1, .slice ae le ce), (2, .bool raw), (3, .slice ag lg cg), (9, .pointer (some ⟨N, 0, none⟩)), (12, .int .i64 (n : Int)), (13, .pointer (some ⟨bp, 0, none⟩)), (14, .slice (some ⟨N5, 0, none⟩) n n), (15, .int .i64 ((n - k : Nat) : Int))]) (k := n) ⟨rfl, Nat.le_refl _, ⟨X2, _, hS, hX12, by rw [Nat.sub_self]; exact hBM, fun a ha => by omega⟩, rfl, rfl, rfl, rfl, rfl, rfl, rfl, by rw [Nat.sub_self]; rfl, trivial⟩ ?_
    clear hS hX12 hBM
    rintro k E h7 N7 D ⟨rfl, hk, ⟨X2, V, hS, hX12, hBM, hVn⟩, hE⟩
    obtain ⟨E4, rfl⟩ := hE.ex
    refine c_seq ?_
    refine c_seq ?_
    refine c_region (by kernel_rfl) ?_
    refine st_q (ok_move (v := .int _ _) rfl ⟨rfl, rfl, rfl⟩) ?_
    refine st_q (ok_move (v := .int _ _) rfl ⟨rfl, rfl, rfl⟩) ?_
    refine st_q (ok_lss rfl rfl ⟨rfl, rfl, rfl⟩) ?_
    refine o_nil ?_
    refine n_then ?_
    refine c_cond_prop rfl (fun hc => ?_) (fun hc => ?_)
    · skip
      generalize hq : n - k = i at *
      have hin : i < n := by omega
      obtain ⟨vs, t1, t2, t3⟩ := hBM.top
      refine c_skip ?_
      refine n_then ?_
      refine c_seq ?_
      refine c_block ?_
      refine c_seq ?_
      refine c_region (by kernel_rfl) ?_
      refine st_q (ok_move (v := .slice _ _ _) rfl ⟨rfl, rfl, rfl⟩) ?_
      refine st_q (ok_move (v := .int _ _) rfl ⟨rfl, rfl, rfl⟩) ?_
      refine st_q (ok_move (v := .int _ _) rfl ⟨rfl, rfl, rfl⟩) ?_
      refine st (ok_makeSlice (sl rfl) (ty rfl) rfl rfl (by omega) (by omega) (by omega) (by omega) (l' := n) (c' := n) (by omega) (by omega) (fun hN84 => ?_))
      refine st_q (ok_indexAddr (sl rfl) (ty rfl) rfl rfl (by omega) (by omega) (off := i) (by omega) ⟨rfl, rfl, rfl⟩) ?_
      refine st0 (ok_store (ty rfl) rfl (v := .slice _ _ _) rfl rfl ((hS.newX (hN84 _ (Nat.le_refl _)) _).oth _ _ ((hset_ne _ _ (ne_of_none t1 (hS.oth.back (hN84 _ (Nat.le_refl _))))).trans t1)) (by omega) ?_)
      refine o_nil ?_
      refine n_then ?_
      have xb : X2 N7 = none := hS.oth.back (hN84 _ (Nat.le_refl _))
      have x1b : X1 N7 = none := hX12.back xb
      have hB2 := hBM.add hin t1 xb
      refine c_heap (fun h' _ => ∃ X3, Sep m X3 h' ∧ Ext X1 X3 ∧ BM X3 N5 n (i + 1) (fun a => if a = i then N7 else V a) (fun a b => if a = i then false else decide (a = b))) ⟨_, (hS.newX (hN84 _ (Nat.le_refl _)) _).setX ((hset_ne _ _ (ne_of_none t1 xb)).trans t1) _, (hX12.fresh (hX12.back xb) _).fresh x1br _, hB2⟩ ?_
      clear hS hX12 hBM t1 t3 hB2
      rintro h8 N8 ⟨X3, hS, hX13, hBM⟩
      obtain ⟨vs, t1, t2, t3⟩ := hBM.top
      obtain ⟨cr, r1, r2, r3⟩ := hBM.row i (by omega)
      have hti := t3 i (by omega)
      have xV : X1 (if i = i then N7 else V i) = none := by rw [if_pos rfl]; exact x1b
      refine c_region (by kernel_rfl) ?_
      refine st_q (ok_move (v := .slice _ _ _) rfl ⟨rfl, rfl, rfl⟩) ?_
      refine st_q (ok_move (v := .int _ _) rfl ⟨rfl, rfl, rfl⟩) ?_
      refine st_q (ok_indexAddr (sl rfl) (ty rfl) rfl rfl (by omega) (by omega) (off := i) (by omega) ⟨rfl, rfl, rfl⟩) ?_
      refine st_q (ok_load (ty rfl) rfl (hS.oth _ _ t1) hti ⟨rfl, rfl, rfl⟩) ?_
      refine st_q (ok_move (v := .int _ _) rfl ⟨rfl, rfl, rfl⟩) ?_
      refine st_q (ok_indexAddr (sl rfl) (ty rfl) rfl rfl (by omega) (by omega) (off := i) (by omega) ⟨rfl, rfl, rfl⟩) ?_
      refine st0 (ok_store (ty rfl) rfl (v := .bool _) rfl rfl (hS.oth _ _ r1) (by omega) ?_)
      refine o_nil ?_
      have hB3 := (hBM.put (i := i) (j := i) (by omega) hin r1).congr (B' := fun a b => decide (a = b)) (fun a b ha hb => by
        by_cases e : a = i
        · subst e
          by_cases e2 : b = a
          · simp [e2]
          · have : ¬ a = b := fun x => e2 x.symm
            simp [e2, this]
        · simp [e])
      refine n_block (n_then ?_)
      refine c_region (by kernel_rfl) ?_
      refine st_q (ok_move (v := .int _ _) rfl ⟨rfl, rfl, rfl⟩) ?_
      refine st_q (ok_add rfl rfl (by omega) (by omega) ⟨rfl, rfl, rfl⟩) ?_
      refine st_q (ok_assign (v := .int _ _) rfl ⟨rfl, rfl, rfl⟩) ?_
      refine o_nil ?_
      refine n_then ⟨k - 1, by omega, rfl, by omega, ⟨_, _, hS.setX r1 _, hX13.fresh xV _, by rw [show n - (k - 1) = i + 1 from by omega]; exact hB3, fun a ha => by
        by_cases e : a = i
        · simp only [e, if_true]; exact hX1.back x1b
        · simp only [e, if_false]; exact hVn a (by omega)⟩, rfl, rfl, rfl, rfl, rfl, rfl, rfl, ?_, trivial⟩
      show Value.int .i64 ((i : Int) + 1) = _
      congr 1; omega
    · skip
      have hk0 : k = 0 := by omega
      subst hk0
      refine c_exit ?_
      exact x_then (x_then (x_block (n_then ⟨rfl, ⟨X2, V, hS, hX12, hBM, hVn⟩, rfl, rfl, rfl, rfl, rfl, rfl, rfl, trivial⟩)))
  clear hS hX12 hBM
  rintro E h7 N7 D ⟨rfl, ⟨X2, V, hS, hX12, hBM, hVn⟩, hE⟩
  obtain ⟨E4, rfl⟩ := hE.ex
  refine n_then ?_
  have hX2 := hX1.trans hX12
  have x9 := hX12 _ _ x9
  have x13 := hX12 _ _ x13
  clear hX1 hX12 x1br
  generalize N5 = br at *
  refine c_seq ?_
  refine c_region (by kernel_rfl) ?_
  refine st_q (ok_assign (v := .bool _) rfl ⟨rfl, rfl, rfl⟩) ?_
  refine o_nil ?_
  refine n_then ?_
  refine c_seq ?_
  refine c_seq ?_
  refine c_region (by kernel_rfl) ?_
  refine st_q (ok_move (v := .slice _ _ _) rfl ⟨rfl, rfl, rfl⟩) ?_
  refine st_q (ok_len (sl rfl) rfl ⟨rfl, rfl, rfl⟩) ?_
  refine st_q (ok_move (v := .int _ _) rfl ⟨rfl, rfl, rfl⟩) ?_
  refine o_nil ?_
  refine n_then ?_
  have hLE0 : LE h m X2 N sp bp bn be br n V (fun _ => none) (fun _ => []) (fun a b => decide (a = b)) false := ⟨hX2, x9, x13, hES, hBM, fun i j _ _ => by simp, fun _ _ _ hx => (by cases hx), by simp, hVn⟩
  refine c_cut (fun E h' _ D => D = [] ∧ ∃ m X M R B c1, Sep m X h' ∧ LE h m X N sp bp bn be br n V M R B c1 ∧ Fr E [(3, .slice ag lg cg), (9, .pointer (some ⟨N, 0, none⟩)), (12, .int .i64 (n : Int)), (13, .pointer (some ⟨bp, 0, none⟩)), (14, .slice (some ⟨br, 0, none⟩) n n), (16, .bool c1)]) ?_ ?_
  · skip
    refine c_block ?_
    refine c_loop (fun k E h' _ D => D = [] ∧ k ≤ le ∧ ∃ m X M R B c1, Sep m X h' ∧ LE h m X N sp bp bn be br n V M R B c1 ∧ Fr E [(2, .bool raw), (3, .slice ag lg cg), (9, .pointer (some ⟨N, 0, none⟩)), (12, .int .i64 (n : Int)), (13, .pointer (some ⟨bp, 0, none⟩)), (14, .slice (some ⟨br, 0, none⟩) n n), (16, .bool c1), (92, .slice ae le ce), (93, .int .i64 (le : Int)), (94, .int .i64 ((le - k : Nat) : Int))]) (k := le) ⟨rfl, Nat.le_refl _, m, X2, _, _, _, _, hS, hLE0, rfl, rfl, rfl, rfl, rfl, rfl, rfl, rfl, rfl, by rw [Nat.sub_self]; rfl, trivial⟩ ?_
    clear hS hLE0 hES hBM hX2 x9 x13
    rintro k E h8 N8 D ⟨rfl, hk, m, X, M, R, B, c1, hS, hL, hE⟩
    obtain ⟨E5, rfl⟩ := hE.ex
    refine c_seq ?_
    refine c_region (by kernel_rfl) ?_
    refine st_q (ok_lss rfl rfl ⟨rfl, rfl, rfl⟩) ?_
    refine o_nil ?_
    refine n_then ?_
    refine c_seq ?_
    refine c_cond_prop rfl (fun hc => ?_) (fun hc => ?_)
    · skip
      generalize hq : le - k = q at *
      have hlast : Value.int .i64 ((q : Int) + 1) = .int .i64 ((le - (k - 1) : Nat) : Int) := by congr 1; omega
      obtain ⟨rfl, gb, hez, het, hb0, hb1⟩ := hes q (by omega)
      refine c_skip ?_
      refine n_then ?_
      refine c_seq ?_
      refine c_block ?_
      refine c_seq ?_
      refine c_region (by kernel_rfl) ?_
      refine st_q (ok_indexAddr (sl rfl) (ty rfl) rfl rfl (by omega) (by omega) (off := (oe + q * 2)) (by omega) ⟨rfl, rfl, rfl⟩) ?_
      refine st_q (ok_loadAgg (ty rfl) rfl (hS.oth _ _ (hL.ext _ _ gb)) hez het ⟨rfl, rfl, rfl⟩) ?_
      refine st (ok_alloc (ty rfl) rfl (fun hN18 => ?_))
      refine st0 (ok_storeL (ty rfl) rfl (v := .agg _) rfl rfl rfl rfl (hset_same _ _ _) (Nat.le_of_ble_eq_true rfl) ?_)
      refine o_nil ?_
      refine n_then ?_
      have x18 : X N8 = none := hS.oth.back (hN18 _ (Nat.le_refl _))
      refine c_heap (fun h' _ => ∃ X1, Sep m X1 h' ∧ Ext X X1 ∧ X1 N8 = some (.cells #[.int .u8 ((e0 q : Nat) : Int), .int .u8 ((e1 q : Nat) : Int)] 24 (0, 0))) ⟨_, (hS.newX (hN18 _ (Nat.le_refl _)) _).setX (hset_same _ _ _) _, ((Ext.refl X).fresh x18 _).fresh x18 _, hset_same _ _ _⟩ ?_
      clear hS x18
      rintro h9 N9 ⟨X1, hS, hXX, x18⟩
      have hL : LE h m X1 N sp bp bn be br n V M R B c1 := ⟨hL.ext.trans hXX, hXX _ _ hL.x9, hXX _ _ hL.x13, hL.es, hL.bm.ext hXX, hL.hB, hL.lt, hL.cy, hL.nV⟩
      clear hXX
      refine c_seq ?_
      refine c_cut (fun E h' N' D => D = [] ∧ h' = h9 ∧ N' = N9 ∧ Fr E [(2, .bool raw), (3, .slice ag lg cg), (9, .pointer (some ⟨N, 0, none⟩)), (12, .int .i64 (n : Int)), (13, .pointer (some ⟨bp, 0, none⟩)), (14, .slice (some ⟨br, 0, none⟩) n n), (16, .bool c1), (19, .int .i64 ((e0 q % n : Nat) : Int)), (20, .int .i64 ((e1 q % n : Nat) : Int)), (92, .slice (some ⟨be0, oe, none⟩) le ce), (93, .int .i64 (le : Int)), (94, .int .i64 (q : Int))]) ?_ ?_
      · skip
        refine c_draw mixed [] 12 rfl [((0, 2), [((1, 1), [((2, 2), [((3, 2), [((4, 2), [((5, 2), [((6, 1), [((7, 2), [((8, 2), [((9, 2), [((10, 2), [((11, 2), ())])])])])])])])])])])])] (by kernel_rfl) (by kernel_rfl) ?_
        refine w_p rfl (fun _ _ => ok_indexAddrA (ar rfl) (ty rfl) rfl rfl (by omega) (by omega) rfl ⟨rfl, rfl, rfl⟩) ?_
        refine w_r rfl (fun _ _ hExt => ok_load (ty rfl) rfl (hExt _ _ (hS.oth _ _ x18)) rfl ⟨rfl, rfl, rfl⟩) ?_
        refine w_p rfl (fun _ _ => ok_convert (ik rfl) (ik rfl) rfl (wrap_i64 (by omega) (by omega)) ⟨rfl, rfl, rfl⟩) ?_
        refine w_p rfl (fun _ _ => ok_move (v := .int _ _) rfl ⟨rfl, rfl, rfl⟩) ?_
        refine w_p rfl (fun _ _ => ok_rem rfl rfl (by omega) (by omega) ⟨rfl, rfl, rfl⟩) ?_
        refine w_p rfl (fun _ _ => ok_indexAddrA (ar rfl) (ty rfl) rfl rfl (by omega) (by omega) rfl ⟨rfl, rfl, rfl⟩) ?_
        refine w_r rfl (fun _ _ hExt => ok_load (ty rfl) rfl (hExt _ _ (hS.oth _ _ x18)) rfl ⟨rfl, rfl, rfl⟩) ?_
        refine w_p rfl (fun _ _ => ok_convert (ik rfl) (ik rfl) rfl (wrap_i64 (by omega) (by omega)) ⟨rfl, rfl, rfl⟩) ?_
        refine w_p rfl (fun _ _ => ok_move (v := .int _ _) rfl ⟨rfl, rfl, rfl⟩) ?_
        refine w_p rfl (fun _ _ => ok_rem rfl rfl (by omega) (by omega) ⟨rfl, rfl, rfl⟩) ?_
        refine w_p rfl (fun _ _ => ok_assign (v := .int _ _) rfl ⟨rfl, rfl, rfl⟩) ?_
        refine w_p rfl (fun _ _ => ok_assign (v := .int _ _) rfl ⟨rfl, rfl, rfl⟩) ?_
        refine w_nil ?_
        exact n_then ⟨rfl, rfl, rfl, rfl, rfl, rfl, rfl, rfl, rfl, rfl, rfl, rfl, rfl, rfl, rfl, trivial⟩
      rintro E h10 N10 D ⟨rfl, rfl, rfl, hE⟩
      obtain ⟨E6, rfl⟩ := hE.ex
      refine n_then ?_
      have hf0 := Nat.mod_lt (e0 q) hn1
      have ht0 := Nat.mod_lt (e1 q) hn1
      refine c_seq ?_
      refine c_cutX (fun E h' N' D => D = [] ∧ h' = h10 ∧ N' = N10 ∧ ∃ f t, f < n ∧ t < n ∧ Fr E [(2, .bool raw), (3, .slice ag lg cg), (9, .pointer (some ⟨N, 0, none⟩)), (12, .int .i64 (n : Int)), (13, .pointer (some ⟨bp, 0, none⟩)), (14, .slice (some ⟨br, 0, none⟩) n n), (16, .bool c1), (19, .int .i64 ((f : Nat) : Int)), (20, .int .i64 ((t : Nat) : Int)), (92, .slice (some ⟨be0, oe, none⟩) le ce), (93, .int .i64 (le : Int)), (94, .int .i64 (q : Int))]) ?_ ?_
      · skip
        refine c_seq ?_
        refine c_region (by kernel_rfl) ?_
        refine st_q (ok_move (v := .bool _) rfl ⟨rfl, rfl, rfl⟩) ?_
        refine st_q (ok_not rfl ⟨rfl, rfl, rfl⟩) ?_
        refine o_nil ?_
        refine n_then ?_
        cases raw with
        | true =>
          refine c_cond_false rfl ?_
          refine c_skip ?_
          exact n_then ⟨rfl, rfl, rfl, _, _, hf0, ht0, rfl, rfl, rfl, rfl, rfl, rfl, rfl, rfl, rfl, rfl, rfl, rfl, trivial⟩
        | false =>
          refine c_cond_true rfl ?_
          refine c_seq ?_
          refine c_seq ?_
          skip
          refine c_region (by kernel_rfl) ?_
          refine st_q (ok_move (v := .int _ _) rfl ⟨rfl, rfl, rfl⟩) ?_
          refine st_q (ok_move (v := .int _ _) rfl ⟨rfl, rfl, rfl⟩) ?_
          refine st_q (ok_eql rfl rfl ⟨rfl, rfl, rfl⟩) ?_
          refine o_nil ?_
          refine n_then ?_
          refine c_cond_prop rfl (fun hc2 => ?_) (fun hc2 => ?_)
          · skip
            refine c_exit ?_
            refine x_then (x_then (x_then (x_block (n_then ?_))))
            refine c_region (by kernel_rfl) ?_
            refine st_q (ok_add rfl rfl (by omega) (by omega) ⟨rfl, rfl, rfl⟩) ?_
            refine st_q (ok_move (v := .int _ _) rfl ⟨rfl, rfl, rfl⟩) ?_
            refine o_nil ?_
            exact n_then ⟨k - 1, by omega, rfl, by omega, m, X1, M, R, B, c1, hS, hL, rfl, rfl, rfl, rfl, rfl, rfl, rfl, rfl, rfl, hlast, trivial⟩
          · skip
            refine c_skip ?_
            refine n_then ?_
            refine c_seq ?_
            refine c_region (by kernel_rfl) ?_
            refine st_q (ok_move (v := .int _ _) rfl ⟨rfl, rfl, rfl⟩) ?_
            refine st_q (ok_move (v := .int _ _) rfl ⟨rfl, rfl, rfl⟩) ?_
            refine st_q (ok_gtr rfl rfl ⟨rfl, rfl, rfl⟩) ?_
            refine o_nil ?_
            refine n_then ?_
            refine c_cond_prop rfl (fun hc3 => ?_) (fun hc3 => ?_)
            · skip
              refine c_region (by kernel_rfl) ?_
              refine st_q (ok_move (v := .int _ _) rfl ⟨rfl, rfl, rfl⟩) ?_
              refine st_q (ok_move (v := .int _ _) rfl ⟨rfl, rfl, rfl⟩) ?_
              refine st_q (ok_assign (v := .int _ _) rfl ⟨rfl, rfl, rfl⟩) ?_
              refine st_q (ok_assign (v := .int _ _) rfl ⟨rfl, rfl, rfl⟩) ?_
              refine o_nil ?_
              exact n_then ⟨rfl, rfl, rfl, _, _, ht0, hf0, rfl, rfl, rfl, rfl, rfl, rfl, rfl, rfl, rfl, rfl, rfl, rfl, trivial⟩
            · skip
              refine c_skip ?_
              exact n_then ⟨rfl, rfl, rfl, _, _, hf0, ht0, rfl, rfl, rfl, rfl, rfl, rfl, rfl, rfl, rfl, rfl, rfl, rfl, trivial⟩
      clear hf0 ht0 x18
      rintro E h11 N11 D ⟨rfl, rfl, rfl, f, t, hf, ht, hE⟩
      obtain ⟨E7, rfl⟩ := hE.ex
      refine n_then ?_
      refine c_seq ?_
      refine c_region (by kernel_rfl) ?_
      refine st_q (ok_fieldAddr (fld rfl) rfl ⟨rfl, rfl, rfl⟩) ?_
      refine st_q (ok_load (ty rfl) rfl (hS.oth _ _ hL.x13) rfl ⟨rfl, rfl, rfl⟩) ?_
      refine st_q (ok_move (v := .int _ _) rfl ⟨rfl, rfl, rfl⟩) ?_
      refine st_q (ok_move (v := .int _ _) rfl ⟨rfl, rfl, rfl⟩) ?_
      refine st (ok_call rfl ent4 (add_ok (t := t) hS hL.es hf) rfl ?_)
      rintro _ h12 N12 ⟨rfl, m2, M2, hS2, hES2⟩
      refine o_nil ?_
      refine n_then ?_
      have hcy2 : (c1 || decide (f = t)) = true ↔ ∃ i, i < n ∧ i ∈ (fun i => if i = f then ins (R f) t else R i) i := by
        rw [Bool.or_eq_true, decide_eq_true_eq, hL.cy]
        constructor
        · rintro (⟨i, hi, h1⟩ | h1)
          · refine ⟨i, hi, ?_⟩
            by_cases e : i = f
            · subst e; simp only [if_true]; exact mem_ins.2 (.inl h1)
            · simp only [e, if_false]; exact h1
          · subst h1; exact ⟨f, hf, by simp only [if_true]; exact mem_ins.2 (.inr rfl)⟩
        · rintro ⟨i, hi, h1⟩
          by_cases e : i = f
          · subst e
            simp only [if_true] at h1
            rcases mem_ins.1 h1 with h2 | h2
            · exact .inl ⟨i, hi, h2⟩
            · exact .inr h2
          · simp only [e, if_false] at h1
            exact .inl ⟨i, hi, h1⟩
      refine c_seq ?_
      refine c_cut (fun E h' N' D => D = [] ∧ h' = h12 ∧ N' = N12 ∧ Fr E [(2, .bool raw), (3, .slice ag lg cg), (9, .pointer (some ⟨N, 0, none⟩)), (12, .int .i64 (n : Int)), (13, .pointer (some ⟨bp, 0, none⟩)), (14, .slice (some ⟨br, 0, none⟩) n n), (16, .bool (c1 || decide (f = t))), (19, .int .i64 ((f : Nat) : Int)), (20, .int .i64 ((t : Nat) : Int)), (92, .slice (some ⟨be0, oe, none⟩) le ce), (93, .int .i64 (le : Int)), (94, .int .i64 (q : Int))]) ?_ ?_
      · skip
        refine c_seq ?_
        refine c_region (by kernel_rfl) ?_
        refine st_q (ok_move (v := .int _ _) rfl ⟨rfl, rfl, rfl⟩) ?_
        refine st_q (ok_move (v := .int _ _) rfl ⟨rfl, rfl, rfl⟩) ?_
        refine st_q (ok_eql rfl rfl ⟨rfl, rfl, rfl⟩) ?_
        refine o_nil ?_
        refine n_then ?_
        refine c_cond_prop rfl (fun hc2 => ?_) (fun hc2 => ?_)
        · skip
          have e : f = t := by omega
          refine c_region (by kernel_rfl) ?_
          refine st_q (ok_assign (v := .bool _) rfl ⟨rfl, rfl, rfl⟩) ?_
          refine o_nil ?_
          refine n_then ⟨rfl, rfl, rfl, rfl, rfl, rfl, rfl, rfl, rfl, ?_, rfl, rfl, rfl, rfl, rfl, trivial⟩
          show Value.bool true = _
          simp [e]
        · skip
          have e : ¬ f = t := by omega
          refine c_skip ?_
          refine n_then ⟨rfl, rfl, rfl, rfl, rfl, rfl, rfl, rfl, rfl, ?_, rfl, rfl, rfl, rfl, rfl, trivial⟩
          show Value.bool c1 = _
          simp [e]
      rintro E h13 N13 D ⟨rfl, rfl, rfl, hE⟩
      obtain ⟨E8, rfl⟩ := hE.ex
      refine n_then ?_
      obtain ⟨vs, t1, t2, t3⟩ := hL.bm.top
      obtain ⟨cr, r1, r2, r3⟩ := hL.bm.row f hf
      refine c_region (by kernel_rfl) ?_
      refine st_q (ok_move (v := .slice _ _ _) rfl ⟨rfl, rfl, rfl⟩) ?_
      refine st_q (ok_move (v := .int _ _) rfl ⟨rfl, rfl, rfl⟩) ?_
      refine st_q (ok_indexAddr (sl rfl) (ty rfl) rfl rfl (by omega) (by omega) (off := f) (by omega) ⟨rfl, rfl, rfl⟩) ?_
      refine st_q (ok_load (ty rfl) rfl (hS2.oth _ _ t1) (t3 f hf) ⟨rfl, rfl, rfl⟩) ?_
      refine st_q (ok_move (v := .int _ _) rfl ⟨rfl, rfl, rfl⟩) ?_
      refine st_q (ok_indexAddr (sl rfl) (ty rfl) rfl rfl (by omega) (by omega) (off := t) (by omega) ⟨rfl, rfl, rfl⟩) ?_
      refine st0 (ok_store (ty rfl) rfl (v := .bool _) rfl rfl (hS2.oth _ _ r1) (by omega) ?_)
      refine o_nil ?_
      have hB3 := hL.bm.put hf ht r1
      have hL3 : LE h m2 (hset X1 (V f) (.cells (setA cr t (.bool true)) 4 (0, 0))) N sp bp bn be br n V M2 (fun i => if i = f then ins (R f) t else R i) (fun a b => if a = f ∧ b = t then true else B a b) (c1 || decide (f = t)) := by
        refine ⟨hL.ext.fresh (hL.nV f hf) _, (hset_ne _ _ (ne_of_ty hL.x9 r1 rfl)).trans hL.x9, (hset_ne _ _ (ne_of_ty hL.x13 r1 rfl)).trans hL.x13, hES2, hB3, fun i j hi hj => ?_, fun i hi x hx => ?_, hcy2, hL.nV⟩
        · by_cases e : i = f
          · subst e
            simp only [true_and, if_true, mem_ins]
            by_cases e2 : j = t
            · simp [e2]
            · simp only [e2, if_false, or_false]; exact hL.hB i j hi hj
          · simp only [e, false_and, if_false]; exact hL.hB i j hi hj
        · by_cases e : i = f
          · subst e
            simp only [if_true, mem_ins] at hx
            rcases hx with h1 | h1
            · exact hL.lt i hi x h1
            · omega
          · simp only [e, if_false] at hx; exact hL.lt i hi x hx
      refine n_block (n_then ?_)
      refine c_region (by kernel_rfl) ?_
      refine st_q (ok_add rfl rfl (by omega) (by omega) ⟨rfl, rfl, rfl⟩) ?_
      refine st_q (ok_move (v := .int _ _) rfl ⟨rfl, rfl, rfl⟩) ?_
      refine o_nil ?_
      exact n_then ⟨k - 1, by omega, rfl, by omega, m2, _, M2, _, _, _, hS2.setX r1 _, hL3, rfl, rfl, rfl, rfl, rfl, rfl, rfl, rfl, rfl, hlast, trivial⟩
    · skip
      refine c_exit ?_
      exact x_then (x_then (x_block (n_then ⟨rfl, m, X, M, R, B, c1, hS, hL, rfl, rfl, rfl, rfl, rfl, rfl, trivial⟩)))
  clear hS hLE0 hES hBM hX2 x9 x13
  rintro E h8 N8 D ⟨rfl, m, X, M, R, B, c1, hS, hL, hE⟩
  obtain ⟨E5, rfl⟩ := hE.ex
  refine n_then ?_
  have hES := hL.es
  have hBR := hL.hB
  have hRl := hL.lt
  have hcy1 := hL.cy
  have hLF0 : LF h X N sp bp bn be br n V B := ⟨hL.ext, hL.x9, hL.x13, hL.bm, hL.nV⟩
  clear hL
  refine c_seq ?_
  refine c_seq ?_
  refine c_region (by kernel_rfl) ?_
  refine st_q (ok_assign (v := .int _ _) rfl ⟨rfl, rfl, rfl⟩) ?_
  refine o_nil ?_
  refine n_then ?_
  refine c_cut (fun E h' _ D => D = [] ∧ (∃ X, Sep m X h' ∧ LF h X N sp bp bn be br n V (fw B n)) ∧ Fr E [(3, .slice ag lg cg), (9, .pointer (some ⟨N, 0, none⟩)), (12, .int .i64 (n : Int)), (13, .pointer (some ⟨bp, 0, none⟩)), (14, .slice (some ⟨br, 0, none⟩) n n), (16, .bool c1)]) ?_ ?_
  · skip
    refine c_block ?_
    refine c_loop (fun k E h' _ D => D = [] ∧ k ≤ n ∧ (∃ X, Sep m X h' ∧ LF h X N sp bp bn be br n V (fw B (n - k))) ∧ Fr E [(3, .slice ag lg cg), (9, .pointer (some ⟨N, 0, none⟩)), (12, .int .i64 (n : Int)), (13, .pointer (some ⟨bp, 0, none⟩)), (14, .slice (some ⟨br, 0, none⟩) n n), (16, .bool c1), (21, .int .i64 ((n - k : Nat) : Int))]) (k := n) ⟨rfl, Nat.le_refl _, ⟨X, hS, by rw [Nat.sub_self]; exact hLF0⟩, rfl, rfl, rfl, rfl, rfl, rfl, by rw [Nat.sub_self]; rfl, trivial⟩ ?_
    clear hS hLF0
    rintro k E h9 N9 D ⟨rfl, hk, ⟨X, hS, hL⟩, hE⟩
    obtain ⟨E6, rfl⟩ := hE.ex
    refine c_seq ?_
    refine c_seq ?_
    refine c_region (by kernel_rfl) ?_
    refine st_q (ok_move (v := .int _ _) rfl ⟨rfl, rfl, rfl⟩) ?_
    refine st_q (ok_move (v := .int _ _) rfl ⟨rfl, rfl, rfl⟩) ?_
    refine st_q (ok_lss rfl rfl ⟨rfl, rfl, rfl⟩) ?_
    refine o_nil ?_
    refine n_then ?_
    refine c_cond_prop rfl (fun hc => ?_) (fun hc => ?_)
    · skip
      generalize hq : n - k = q at *
      have hqn : q < n := by omega
      have hfw : fw B (q + 1) = fwStep q (fw B q) := rfl
      generalize fw B q = G at *
      refine c_skip ?_
      refine n_then ?_
      refine c_seq ?_
      refine c_block ?_
      refine c_seq ?_
      refine c_region (by kernel_rfl) ?_
      refine st_q (ok_assign (v := .int _ _) rfl ⟨rfl, rfl, rfl⟩) ?_
      refine o_nil ?_
      refine n_then ?_
      refine c_cut (fun E h' _ D => D = [] ∧ (∃ X, Sep m X h' ∧ LF h X N sp bp bn be br n V (fwStep q G)) ∧ Fr E [(3, .slice ag lg cg), (9, .pointer (some ⟨N, 0, none⟩)), (12, .int .i64 (n : Int)), (13, .pointer (some ⟨bp, 0, none⟩)), (14, .slice (some ⟨br, 0, none⟩) n n), (16, .bool c1), (21, .int .i64 (q : Int))]) ?_ ?_
      · skip
        refine c_block ?_
        refine c_loop (fun k2 E h' _ D => D = [] ∧ k2 ≤ n ∧ (∃ X, Sep m X h' ∧ LF h X N sp bp bn be br n V (fun a b => if a < n - k2 then fwStep q G a b else G a b)) ∧ Fr E [(3, .slice ag lg cg), (9, .pointer (some ⟨N, 0, none⟩)), (12, .int .i64 (n : Int)), (13, .pointer (some ⟨bp, 0, none⟩)), (14, .slice (some ⟨br, 0, none⟩) n n), (16, .bool c1), (21, .int .i64 (q : Int)), (22, .int .i64 ((n - k2 : Nat) : Int))]) (k := n) ⟨rfl, Nat.le_refl _, ⟨X, hS, hL.congr (fun a b _ _ => by rw [if_neg (by omega)])⟩, rfl, rfl, rfl, rfl, rfl, rfl, rfl, by rw [Nat.sub_self]; rfl, trivial⟩ ?_
        clear hS hL
        rintro k2 E h10 N10 D ⟨rfl, hk2, ⟨X, hS, hL⟩, hE⟩
        obtain ⟨E7, rfl⟩ := hE.ex
        refine c_seq ?_
        refine c_seq ?_
        refine c_region (by kernel_rfl) ?_
        refine st_q (ok_move (v := .int _ _) rfl ⟨rfl, rfl, rfl⟩) ?_
        refine st_q (ok_move (v := .int _ _) rfl ⟨rfl, rfl, rfl⟩) ?_
        refine st_q (ok_lss rfl rfl ⟨rfl, rfl, rfl⟩) ?_
        refine o_nil ?_
        refine n_then ?_
        refine c_cond_prop rfl (fun hc2 => ?_) (fun hc2 => ?_)
        · skip
          generalize hi : n - k2 = i at *
          have hin : i < n := by omega
          have hlast : Value.int .i64 ((i : Int) + 1) = .int .i64 ((n - (k2 - 1) : Nat) : Int) := by congr 1; omega
          obtain ⟨vs, t1, t2, t3⟩ := hL.bm.top
          obtain ⟨cr, r1, r2, r3⟩ := hL.bm.row i hin
          have hrq := r3 q hqn
          rw [if_neg (by omega)] at hrq
          refine c_skip ?_
          refine n_then ?_
          refine c_seq ?_
          refine c_block ?_
          refine c_seq ?_
          refine c_seq ?_
          refine c_region (by kernel_rfl) ?_
          refine st_q (ok_move (v := .slice _ _ _) rfl ⟨rfl, rfl, rfl⟩) ?_
          refine st_q (ok_move (v := .int _ _) rfl ⟨rfl, rfl, rfl⟩) ?_
          refine st_q (ok_indexAddr (sl rfl) (ty rfl) rfl rfl (by omega) (by omega) (off := i) (by omega) ⟨rfl, rfl, rfl⟩) ?_
          refine st_q (ok_load (ty rfl) rfl (hS.oth _ _ t1) (t3 i hin) ⟨rfl, rfl, rfl⟩) ?_
          refine st_q (ok_move (v := .int _ _) rfl ⟨rfl, rfl, rfl⟩) ?_
          refine st_q (ok_indexAddr (sl rfl) (ty rfl) rfl rfl (by omega) (by omega) (off := q) (by omega) ⟨rfl, rfl, rfl⟩) ?_
          refine st_q (ok_load (ty rfl) rfl (hS.oth _ _ r1) hrq ⟨rfl, rfl, rfl⟩) ?_
          refine st_q (ok_not rfl ⟨rfl, rfl, rfl⟩) ?_
          refine o_nil ?_
          refine n_then ?_
          refine c_cond rfl (fun hc3 => ?_) (fun hc3 => ?_)
          · skip
            have hG : G i q = false := by simpa using hc3
            refine c_exit ?_
            refine x_then (x_block (n_then ?_))
            refine c_region (by kernel_rfl) ?_
            refine st_q (ok_move (v := .int _ _) rfl ⟨rfl, rfl, rfl⟩) ?_
            refine st_q (ok_add rfl rfl (by omega) (by omega) ⟨rfl, rfl, rfl⟩) ?_
            refine st_q (ok_assign (v := .int _ _) rfl ⟨rfl, rfl, rfl⟩) ?_
            refine o_nil ?_
            refine n_then ⟨k2 - 1, by omega, rfl, by omega, ⟨X, hS, hL.congr (fun a b _ _ => ?_)⟩, rfl, rfl, rfl, rfl, rfl, rfl, rfl, hlast, trivial⟩
            rw [show n - (k2 - 1) = i + 1 from by omega]
            by_cases e : a = i
            · subst e; rw [if_neg (by omega), if_pos (by omega)]; simp [fwStep, hG]
            · by_cases e2 : a < i
              · rw [if_pos e2, if_pos (by omega)]
              · rw [if_neg e2, if_neg (by omega)]
          · skip
            have hG : G i q = true := by simpa using hc3
            clear t1 t3 r1 r3 hrq
            refine c_skip ?_
            refine n_then ?_
            refine c_seq ?_
            refine c_region (by kernel_rfl) ?_
            refine st_q (ok_assign (v := .int _ _) rfl ⟨rfl, rfl, rfl⟩) ?_
            refine o_nil ?_
            refine n_then ?_
            refine c_cut (fun E h' _ D => D = [] ∧ (∃ X, Sep m X h' ∧ LF h X N sp bp bn be br n V (fun a b => if a < i + 1 then fwStep q G a b else G a b)) ∧ Fr E [(3, .slice ag lg cg), (9, .pointer (some ⟨N, 0, none⟩)), (12, .int .i64 (n : Int)), (13, .pointer (some ⟨bp, 0, none⟩)), (14, .slice (some ⟨br, 0, none⟩) n n), (16, .bool c1), (21, .int .i64 (q : Int)), (22, .int .i64 (i : Int))]) ?_ ?_
            · skip
              refine c_block ?_
              refine c_loop (fun k3 E h' _ D => D = [] ∧ k3 ≤ n ∧ (∃ X, Sep m X h' ∧ LF h X N sp bp bn be br n V (fun a b => if a < i ∨ (a = i ∧ b < n - k3) then fwStep q G a b else G a b)) ∧ Fr E [(3, .slice ag lg cg), (9, .pointer (some ⟨N, 0, none⟩)), (12, .int .i64 (n : Int)), (13, .pointer (some ⟨bp, 0, none⟩)), (14, .slice (some ⟨br, 0, none⟩) n n), (16, .bool c1), (21, .int .i64 (q : Int)), (22, .int .i64 (i : Int)), (23, .int .i64 ((n - k3 : Nat) : Int))]) (k := n) ⟨rfl, Nat.le_refl _, ⟨X, hS, hL.congr (fun a b _ _ => by by_cases e : a < i <;> simp [e])⟩, rfl, rfl, rfl, rfl, rfl, rfl, rfl, rfl, by rw [Nat.sub_self]; rfl, trivial⟩ ?_
              clear hS hL
              rintro k3 E h11 N11 D ⟨rfl, hk3, ⟨X, hS, hL⟩, hE⟩
              obtain ⟨E8, rfl⟩ := hE.ex
              refine c_seq ?_
              refine c_seq ?_
              refine c_region (by kernel_rfl) ?_
              refine st_q (ok_move (v := .int _ _) rfl ⟨rfl, rfl, rfl⟩) ?_
              refine st_q (ok_move (v := .int _ _) rfl ⟨rfl, rfl, rfl⟩) ?_
              refine st_q (ok_lss rfl rfl ⟨rfl, rfl, rfl⟩) ?_
              refine o_nil ?_
              refine n_then ?_
              refine c_cond_prop rfl (fun hc4 => ?_) (fun hc4 => ?_)
              · skip
                generalize hj : n - k3 = j at *
                have hjn : j < n := by omega
                have hlast2 : Value.int .i64 ((j : Int) + 1) = .int .i64 ((n - (k3 - 1) : Nat) : Int) := by congr 1; omega
                have hnext : n - (k3 - 1) = j + 1 := by omega
                obtain ⟨vs, t1, t2, t3⟩ := hL.bm.top
                obtain ⟨cr, r1, r2, r3⟩ := hL.bm.row q hqn
                obtain ⟨ci, i1, i2, i3⟩ := hL.bm.row i hin
                have hrj := r3 j hjn
                have hval : (if q < i ∨ (q = i ∧ j < j) then fwStep q G q j else G q j) = G q j := by
                  by_cases e : q < i
                  · rw [if_pos (.inl e)]; unfold fwStep; cases G q j <;> simp
                  · rw [if_neg (by omega)]
                rw [hval] at hrj
                refine c_skip ?_
                refine n_then ?_
                refine c_seq ?_
                refine c_block ?_
                refine c_seq ?_
                refine c_region (by kernel_rfl) ?_
                refine st_q (ok_move (v := .slice _ _ _) rfl ⟨rfl, rfl, rfl⟩) ?_
                refine st_q (ok_move (v := .int _ _) rfl ⟨rfl, rfl, rfl⟩) ?_
                refine st_q (ok_indexAddr (sl rfl) (ty rfl) rfl rfl (by omega) (by omega) (off := q) (by omega) ⟨rfl, rfl, rfl⟩) ?_
                refine st_q (ok_load (ty rfl) rfl (hS.oth _ _ t1) (t3 q hqn) ⟨rfl, rfl, rfl⟩) ?_
                refine st_q (ok_move (v := .int _ _) rfl ⟨rfl, rfl, rfl⟩) ?_
                refine st_q (ok_indexAddr (sl rfl) (ty rfl) rfl rfl (by omega) (by omega) (off := j) (by omega) ⟨rfl, rfl, rfl⟩) ?_
                refine st_q (ok_load (ty rfl) rfl (hS.oth _ _ r1) hrj ⟨rfl, rfl, rfl⟩) ?_
                refine o_nil ?_
                refine n_then ?_
                refine c_cond rfl (fun hc5 => ?_) (fun hc5 => ?_)
                · skip
                  have hG2 : G q j = true := hc5
                  refine c_region (by kernel_rfl) ?_
                  refine st_q (ok_move (v := .slice _ _ _) rfl ⟨rfl, rfl, rfl⟩) ?_
                  refine st_q (ok_move (v := .int _ _) rfl ⟨rfl, rfl, rfl⟩) ?_
                  refine st_q (ok_indexAddr (sl rfl) (ty rfl) rfl rfl (by omega) (by omega) (off := i) (by omega) ⟨rfl, rfl, rfl⟩) ?_
                  refine st_q (ok_load (ty rfl) rfl (hS.oth _ _ t1) (t3 i hin) ⟨rfl, rfl, rfl⟩) ?_
                  refine st_q (ok_move (v := .int _ _) rfl ⟨rfl, rfl, rfl⟩) ?_
                  refine st_q (ok_indexAddr (sl rfl) (ty rfl) rfl rfl (by omega) (by omega) (off := j) (by omega) ⟨rfl, rfl, rfl⟩) ?_
                  refine st0 (ok_store (ty rfl) rfl (v := .bool _) rfl rfl (hS.oth _ _ i1) (by omega) ?_)
                  refine o_nil ?_
                  refine n_block (n_then ?_)
                  refine c_region (by kernel_rfl) ?_
                  refine st_q (ok_move (v := .int _ _) rfl ⟨rfl, rfl, rfl⟩) ?_
                  refine st_q (ok_add rfl rfl (by omega) (by omega) ⟨rfl, rfl, rfl⟩) ?_
                  refine st_q (ok_assign (v := .int _ _) rfl ⟨rfl, rfl, rfl⟩) ?_
                  refine o_nil ?_
                  refine n_then ⟨k3 - 1, by omega, rfl, by omega, ⟨_, hS.setX i1 _, (hL.put hin hjn i1).congr (fun a b _ _ => ?_)⟩, rfl, rfl, rfl, rfl, rfl, rfl, rfl, rfl, hlast2, trivial⟩
                  rw [hnext]
                  by_cases e : a = i ∧ b = j
                  · obtain ⟨rfl, rfl⟩ := e
                    rw [if_pos ⟨rfl, rfl⟩, if_pos (.inr ⟨rfl, by omega⟩)]; simp [fwStep, hG, hG2]
                  · rw [if_neg e]
                    by_cases e2 : a < i ∨ (a = i ∧ b < j)
                    · rw [if_pos e2, if_pos (by omega)]
                    · rw [if_neg e2, if_neg (by omega)]
                · skip
                  have hG2 : G q j = false := hc5
                  refine c_skip ?_
                  refine n_block (n_then ?_)
                  refine c_region (by kernel_rfl) ?_
                  refine st_q (ok_move (v := .int _ _) rfl ⟨rfl, rfl, rfl⟩) ?_
                  refine st_q (ok_add rfl rfl (by omega) (by omega) ⟨rfl, rfl, rfl⟩) ?_
                  refine st_q (ok_assign (v := .int _ _) rfl ⟨rfl, rfl, rfl⟩) ?_
                  refine o_nil ?_
                  refine n_then ⟨k3 - 1, by omega, rfl, by omega, ⟨X, hS, hL.congr (fun a b _ _ => ?_)⟩, rfl, rfl, rfl, rfl, rfl, rfl, rfl, rfl, hlast2, trivial⟩
                  rw [hnext]
                  by_cases e : a = i ∧ b = j
                  · obtain ⟨rfl, rfl⟩ := e
                    rw [if_neg (by omega), if_pos (.inr ⟨rfl, by omega⟩)]; simp [fwStep, hG2]
                  · by_cases e2 : a < i ∨ (a = i ∧ b < j)
                    · rw [if_pos e2, if_pos (by omega)]
                    · rw [if_neg e2, if_neg (by omega)]
              · skip
                refine c_exit ?_
                refine x_then (x_then (x_block (n_then ⟨rfl, ⟨X, hS, hL.congr (fun a b _ hb => ?_)⟩, rfl, rfl, rfl, rfl, rfl, rfl, rfl, rfl, trivial⟩)))
                by_cases e : a < i + 1
                · rw [if_pos e, if_pos (by omega)]
                · rw [if_neg e, if_neg (by omega)]
            clear hS hL
            rintro E h11 N11 D ⟨rfl, ⟨X, hS, hL⟩, hE⟩
            obtain ⟨E8, rfl⟩ := hE.ex
            refine n_block (n_then ?_)
            refine c_region (by kernel_rfl) ?_
            refine st_q (ok_move (v := .int _ _) rfl ⟨rfl, rfl, rfl⟩) ?_
            refine st_q (ok_add rfl rfl (by omega) (by omega) ⟨rfl, rfl, rfl⟩) ?_
            refine st_q (ok_assign (v := .int _ _) rfl ⟨rfl, rfl, rfl⟩) ?_
            refine o_nil ?_
            exact n_then ⟨k2 - 1, by omega, rfl, by omega, ⟨X, hS, by rw [show n - (k2 - 1) = i + 1 from by omega]; exact hL⟩, rfl, rfl, rfl, rfl, rfl, rfl, rfl, hlast, trivial⟩
        · skip
          refine c_exit ?_
          refine x_then (x_then (x_block (n_then ⟨rfl, ⟨X, hS, hL.congr (fun a b ha _ => ?_)⟩, rfl, rfl, rfl, rfl, rfl, rfl, rfl, trivial⟩)))
          rw [if_pos (by omega)]
      clear hS hL
      rintro E h10 N10 D ⟨rfl, ⟨X, hS, hL⟩, hE⟩
      obtain ⟨E7, rfl⟩ := hE.ex
      refine n_block (n_then ?_)
      refine c_region (by kernel_rfl) ?_
      refine st_q (ok_move (v := .int _ _) rfl ⟨rfl, rfl, rfl⟩) ?_
      refine st_q (ok_add rfl rfl (by omega) (by omega) ⟨rfl, rfl, rfl⟩) ?_
      refine st_q (ok_assign (v := .int _ _) rfl ⟨rfl, rfl, rfl⟩) ?_
      refine o_nil ?_
      refine n_then ⟨k - 1, by omega, rfl, by omega, ⟨X, hS, by rw [show n - (k - 1) = q + 1 from by omega, hfw]; exact hL⟩, rfl, rfl, rfl, rfl, rfl, rfl, ?_, trivial⟩
      show Value.int .i64 ((q : Int) + 1) = _
      congr 1; omega
    · skip
      have hk0 : k = 0 := by omega
      subst hk0
      refine c_exit ?_
      exact x_then (x_then (x_block (n_then ⟨rfl, ⟨X, hS, hL⟩, rfl, rfl, rfl, rfl, rfl, rfl, trivial⟩)))
  clear hS hLF0
  rintro E h9 N9 D ⟨rfl, ⟨X, hS, hL⟩, hE⟩
  obtain ⟨E6, rfl⟩ := hE.ex
  refine n_then ?_
  have hMM : ∀ i j, i < n → j < n → (fw B n i j = true ↔ RC R i j) := fun i j hi hj => fw_all hBR hRl hi hj
  generalize fw B n = G at *
  clear hBR
  refine c_seq ?_
  refine c_seq ?_
  refine c_region (by kernel_rfl) ?_
  refine st_q (ok_assign (v := .int _ _) rfl ⟨rfl, rfl, rfl⟩) ?_
  refine o_nil ?_
  refine n_then ?_
  refine c_cut (fun E h' N' D => D = [] ∧ h' = h9 ∧ N' = N9 ∧ ∃ c : Bool, (c = true ↔ ∃ i, i < n ∧ TC R i i) ∧ Fr E [(3, .slice ag lg cg), (9, .pointer (some ⟨N, 0, none⟩)), (12, .int .i64 (n : Int)), (13, .pointer (some ⟨bp, 0, none⟩)), (14, .slice (some ⟨br, 0, none⟩) n n), (16, .bool c)]) ?_ ?_
  · skip
    refine c_block ?_
    refine c_loop (fun k E h' N' D => D = [] ∧ h' = h9 ∧ N' = N9 ∧ k ≤ n ∧ ∃ c : Bool, (c = true ↔ c1 = true ∨ ∃ a b, a < b ∧ b < n ∧ a < n - k ∧ G a b = true ∧ G b a = true) ∧ Fr E [(3, .slice ag lg cg), (9, .pointer (some ⟨N, 0, none⟩)), (12, .int .i64 (n : Int)), (13, .pointer (some ⟨bp, 0, none⟩)), (14, .slice (some ⟨br, 0, none⟩) n n), (16, .bool c), (24, .int .i64 ((n - k : Nat) : Int))]) (k := n) ⟨rfl, rfl, rfl, Nat.le_refl _, c1, ⟨.inl, fun hh => hh.elim id (fun ⟨a, b, _, _, h3, _⟩ => by omega)⟩, rfl, rfl, rfl, rfl, rfl, rfl, by rw [Nat.sub_self]; rfl, trivial⟩ ?_
    rintro k E h10 N10 D ⟨rfl, rfl, rfl, hk, c, hcc, hE⟩
    obtain ⟨E7, rfl⟩ := hE.ex
    refine c_seq ?_
    refine c_seq ?_
    refine c_region (by kernel_rfl) ?_
    refine st_q (ok_move (v := .int _ _) rfl ⟨rfl, rfl, rfl⟩) ?_
    refine st_q (ok_move (v := .int _ _) rfl ⟨rfl, rfl, rfl⟩) ?_
    refine st_q (ok_lss rfl rfl ⟨rfl, rfl, rfl⟩) ?_
    refine o_nil ?_
    refine n_then ?_
    refine c_cond_prop rfl (fun hc => ?_) (fun hc => ?_)
    · skip
      generalize hi : n - k = i at *
      have hin : i < n := by omega
      refine c_skip ?_
      refine n_then ?_
      refine c_seq ?_
      refine c_block ?_
      refine c_seq ?_
      refine c_region (by kernel_rfl) ?_
      refine st_q (ok_move (v := .int _ _) rfl ⟨rfl, rfl, rfl⟩) ?_
      refine st_q (ok_add rfl rfl (by omega) (by omega) ⟨rfl, rfl, rfl⟩) ?_
      refine st_q (ok_assign (v := .int _ _) rfl ⟨rfl, rfl, rfl⟩) ?_
      refine o_nil ?_
      refine n_then ?_
      refine c_cut (fun E h' N' D => D = [] ∧ h' = h10 ∧ N' = N10 ∧ ∃ c : Bool, (c = true ↔ c1 = true ∨ ∃ a b, a < b ∧ b < n ∧ a < i + 1 ∧ G a b = true ∧ G b a = true) ∧ Fr E [(3, .slice ag lg cg), (9, .pointer (some ⟨N, 0, none⟩)), (12, .int .i64 (n : Int)), (13, .pointer (some ⟨bp, 0, none⟩)), (14, .slice (some ⟨br, 0, none⟩) n n), (16, .bool c), (24, .int .i64 (i : Int))]) ?_ ?_
      · skip
        refine c_block ?_
        refine c_loop (fun k2 E h' N' D => D = [] ∧ h' = h10 ∧ N' = N10 ∧ k2 + i < n ∧ ∃ c : Bool, (c = true ↔ c1 = true ∨ ∃ a b, a < b ∧ b < n ∧ (a < i ∨ (a = i ∧ b < n - k2)) ∧ G a b = true ∧ G b a = true) ∧ Fr E [(3, .slice ag lg cg), (9, .pointer (some ⟨N, 0, none⟩)), (12, .int .i64 (n : Int)), (13, .pointer (some ⟨bp, 0, none⟩)), (14, .slice (some ⟨br, 0, none⟩) n n), (16, .bool c), (24, .int .i64 (i : Int)), (25, .int .i64 ((n - k2 : Nat) : Int))]) (k := n - (i + 1)) ⟨rfl, rfl, rfl, by omega, c, ?_, rfl, rfl, rfl, rfl, rfl, rfl, rfl, ?_, trivial⟩ ?_
        · rw [hcc]
          constructor
          · rintro (h1 | ⟨a, b, h1, h2, h3, h4⟩)
            · exact .inl h1
            · exact .inr ⟨a, b, h1, h2, .inl h3, h4⟩
          · rintro (h1 | ⟨a, b, h1, h2, h3, h4⟩)
            · exact .inl h1
            · refine .inr ⟨a, b, h1, h2, ?_, h4⟩
              omega
        · show Value.int .i64 ((i : Int) + 1) = _
          congr 1; omega
        clear hcc
        rintro k2 E h11 N11 D ⟨rfl, rfl, rfl, hk2, c, hcc, hE⟩
        obtain ⟨E8, rfl⟩ := hE.ex
        refine c_seq ?_
        refine c_seq ?_
        refine c_region (by kernel_rfl) ?_
        refine st_q (ok_move (v := .int _ _) rfl ⟨rfl, rfl, rfl⟩) ?_
        refine st_q (ok_move (v := .int _ _) rfl ⟨rfl, rfl, rfl⟩) ?_
        refine st_q (ok_lss rfl rfl ⟨rfl, rfl, rfl⟩) ?_
        refine o_nil ?_
        refine n_then ?_
        refine c_cond_prop rfl (fun hc2 => ?_) (fun hc2 => ?_)
        · skip
          generalize hj : n - k2 = j at *
          have hjn : j < n := by omega
          have hij : i < j := by omega
          have hlast : Value.int .i64 ((j : Int) + 1) = .int .i64 ((n - (k2 - 1) : Nat) : Int) := by congr 1; omega
          obtain ⟨vs, t1, t2, t3⟩ := hL.bm.top
          obtain ⟨ci, i1, i2, i3⟩ := hL.bm.row i hin
          obtain ⟨cj, j1, j2, j3⟩ := hL.bm.row j hjn
          refine c_skip ?_
          refine n_then ?_
          refine c_seq ?_
          refine c_block ?_
          refine c_seq ?_
          refine c_cut (fun E h' N' D => D = [] ∧ h' = h11 ∧ N' = N11 ∧ Fr E [(196, .bool (G i j && G j i)), (3, .slice ag lg cg), (9, .pointer (some ⟨N, 0, none⟩)), (12, .int .i64 (n : Int)), (13, .pointer (some ⟨bp, 0, none⟩)), (14, .slice (some ⟨br, 0, none⟩) n n), (16, .bool c), (24, .int .i64 (i : Int)), (25, .int .i64 (j : Int))]) ?_ ?_
          · cases hv : G i j with
            | true =>
              have hiv := i3 j hjn
              rw [hv] at hiv
              skip
              refine c_region (by kernel_rfl) ?_
              refine st_q (ok_move (v := .slice _ _ _) rfl ⟨rfl, rfl, rfl⟩) ?_
              refine st_q (ok_move (v := .int _ _) rfl ⟨rfl, rfl, rfl⟩) ?_
              refine st_q (ok_indexAddr (sl rfl) (ty rfl) rfl rfl (by omega) (by omega) (off := i) (by omega) ⟨rfl, rfl, rfl⟩) ?_
              refine st_q (ok_load (ty rfl) rfl (hS.oth _ _ t1) (t3 i hin) ⟨rfl, rfl, rfl⟩) ?_
              refine st_q (ok_move (v := .int _ _) rfl ⟨rfl, rfl, rfl⟩) ?_
              refine st_q (ok_indexAddr (sl rfl) (ty rfl) rfl rfl (by omega) (by omega) (off := j) (by omega) ⟨rfl, rfl, rfl⟩) ?_
              refine st_q (ok_load (ty rfl) rfl (hS.oth _ _ i1) hiv ⟨rfl, rfl, rfl⟩) ?_
              refine st_q (ok_move (v := .bool _) rfl ⟨rfl, rfl, rfl⟩) ?_
              refine st_g rfl (ok_move (v := .slice _ _ _) rfl ⟨rfl, rfl, rfl⟩) ?_
              refine st_g rfl (ok_move (v := .int _ _) rfl ⟨rfl, rfl, rfl⟩) ?_
              refine st_g rfl (ok_indexAddr (sl rfl) (ty rfl) rfl rfl (by omega) (by omega) (off := j) (by omega) ⟨rfl, rfl, rfl⟩) ?_
              refine st_g rfl (ok_load (ty rfl) rfl (hS.oth _ _ t1) (t3 j hjn) ⟨rfl, rfl, rfl⟩) ?_
              refine st_g rfl (ok_move (v := .int _ _) rfl ⟨rfl, rfl, rfl⟩) ?_
              refine st_g rfl (ok_indexAddr (sl rfl) (ty rfl) rfl rfl (by omega) (by omega) (off := i) (by omega) ⟨rfl, rfl, rfl⟩) ?_
              refine st_g rfl (ok_load (ty rfl) rfl (hS.oth _ _ j1) (j3 i hin) ⟨rfl, rfl, rfl⟩) ?_
              refine st_q (ok_pick_true rfl rfl ⟨rfl, rfl, rfl⟩) ?_
              refine o_nil ?_
              exact n_then ⟨rfl, rfl, rfl, rfl, rfl, rfl, rfl, rfl, rfl, rfl, rfl, rfl, trivial⟩
            | false =>
              have hiv := i3 j hjn
              rw [hv] at hiv
              skip
              refine c_region (by kernel_rfl) ?_
              refine st_q (ok_move (v := .slice _ _ _) rfl ⟨rfl, rfl, rfl⟩) ?_
              refine st_q (ok_move (v := .int _ _) rfl ⟨rfl, rfl, rfl⟩) ?_
              refine st_q (ok_indexAddr (sl rfl) (ty rfl) rfl rfl (by omega) (by omega) (off := i) (by omega) ⟨rfl, rfl, rfl⟩) ?_
              refine st_q (ok_load (ty rfl) rfl (hS.oth _ _ t1) (t3 i hin) ⟨rfl, rfl, rfl⟩) ?_
              refine st_q (ok_move (v := .int _ _) rfl ⟨rfl, rfl, rfl⟩) ?_
              refine st_q (ok_indexAddr (sl rfl) (ty rfl) rfl rfl (by omega) (by omega) (off := j) (by omega) ⟨rfl, rfl, rfl⟩) ?_
              refine st_q (ok_load (ty rfl) rfl (hS.oth _ _ i1) hiv ⟨rfl, rfl, rfl⟩) ?_
              refine st_q (ok_move (v := .bool _) rfl ⟨rfl, rfl, rfl⟩) ?_
              refine st_s rfl ?_
              refine st_s rfl ?_
              refine st_s rfl ?_
              refine st_s rfl ?_
              refine st_s rfl ?_
              refine st_s rfl ?_
              refine st_s rfl ?_
              refine st_q (ok_pick_false rfl rfl ⟨rfl, rfl, rfl⟩) ?_
              refine o_nil ?_
              exact n_then ⟨rfl, rfl, rfl, rfl, rfl, rfl, rfl, rfl, rfl, rfl, rfl, rfl, trivial⟩
          rintro E h12 N12 D ⟨rfl, rfl, rfl, hE⟩
          obtain ⟨E9, rfl⟩ := hE.ex
          refine n_then ?_
          refine c_cond rfl (fun hc3 => ?_) (fun hc3 => ?_)
          · skip
            rw [Bool.and_eq_true] at hc3
            refine c_region (by kernel_rfl) ?_
            refine st_q (ok_assign (v := .bool _) rfl ⟨rfl, rfl, rfl⟩) ?_
            refine o_nil ?_
            refine n_block (n_then ?_)
            refine c_region (by kernel_rfl) ?_
            refine st_q (ok_move (v := .int _ _) rfl ⟨rfl, rfl, rfl⟩) ?_
            refine st_q (ok_add rfl rfl (by omega) (by omega) ⟨rfl, rfl, rfl⟩) ?_
            refine st_q (ok_assign (v := .int _ _) rfl ⟨rfl, rfl, rfl⟩) ?_
            refine o_nil ?_
            refine n_then ⟨k2 - 1, by omega, rfl, rfl, rfl, by omega, true, ⟨fun _ => .inr ⟨i, j, hij, hjn, .inr ⟨rfl, by omega⟩, hc3.1, hc3.2⟩, fun _ => rfl⟩, rfl, rfl, rfl, rfl, rfl, rfl, rfl, hlast, trivial⟩
          · skip
            refine c_skip ?_
            refine n_block (n_then ?_)
            refine c_region (by kernel_rfl) ?_
            refine st_q (ok_move (v := .int _ _) rfl ⟨rfl, rfl, rfl⟩) ?_
            refine st_q (ok_add rfl rfl (by omega) (by omega) ⟨rfl, rfl, rfl⟩) ?_
            refine st_q (ok_assign (v := .int _ _) rfl ⟨rfl, rfl, rfl⟩) ?_
            refine o_nil ?_
            refine n_then ⟨k2 - 1, by omega, rfl, rfl, rfl, by omega, c, ?_, rfl, rfl, rfl, rfl, rfl, rfl, rfl, hlast, trivial⟩
            rw [hcc]
            constructor
            · rintro (h1 | ⟨a, b, h1, h2, h3, h4⟩)
              · exact .inl h1
              · exact .inr ⟨a, b, h1, h2, by omega, h4⟩
            · rintro (h1 | ⟨a, b, h1, h2, h3, h4, h5⟩)
              · exact .inl h1
              · refine .inr ⟨a, b, h1, h2, ?_, h4, h5⟩
                by_cases e : a = i ∧ b = j
                · obtain ⟨rfl, rfl⟩ := e
                  rw [h4, h5] at hc3; cases hc3
                · omega
        · skip
          refine c_exit ?_
          refine x_then (x_then (x_block (n_then ⟨rfl, rfl, rfl, c, ?_, rfl, rfl, rfl, rfl, rfl, rfl, rfl, trivial⟩)))
          rw [hcc]
          constructor
          · rintro (h1 | ⟨a, b, h1, h2, h3, h4⟩)
            · exact .inl h1
            · exact .inr ⟨a, b, h1, h2, by omega, h4⟩
          · rintro (h1 | ⟨a, b, h1, h2, h3, h4⟩)
            · exact .inl h1
            · exact .inr ⟨a, b, h1, h2, by omega, h4⟩
      clear hcc
      rintro E h11 N11 D ⟨rfl, rfl, rfl, c, hcc, hE⟩
      obtain ⟨E8, rfl⟩ := hE.ex
      refine n_block (n_then ?_)
      refine c_region (by kernel_rfl) ?_
      refine st_q (ok_move (v := .int _ _) rfl ⟨rfl, rfl, rfl⟩) ?_
      refine st_q (ok_add rfl rfl (by omega) (by omega) ⟨rfl, rfl, rfl⟩) ?_
      refine st_q (ok_assign (v := .int _ _) rfl ⟨rfl, rfl, rfl⟩) ?_
      refine o_nil ?_
      refine n_then ⟨k - 1, by omega, rfl, rfl, rfl, by omega, c, by rw [show n - (k - 1) = i + 1 from by omega]; exact hcc, rfl, rfl, rfl, rfl, rfl, rfl, ?_, trivial⟩
      show Value.int .i64 ((i : Int) + 1) = _
      congr 1; omega
    · skip
      have hk0 : k = 0 := by omega
      subst hk0
      refine c_exit ?_
      refine x_then (x_then (x_block (n_then ⟨rfl, rfl, rfl, c, ?_, rfl, rfl, rfl, rfl, rfl, rfl, trivial⟩)))
      rw [hcc, cyc_all hRl, hcy1]
      constructor
      · rintro (h1 | ⟨a, b, h1, h2, _, h4, h5⟩)
        · exact .inl h1
        · exact .inr ⟨a, b, h1, h2, (hMM a b (by omega) h2).1 h4, (hMM b a h2 (by omega)).1 h5⟩
      · rintro (h1 | ⟨a, b, h1, h2, h4, h5⟩)
        · exact .inl h1
        · exact .inr ⟨a, b, h1, h2, by omega, (hMM a b (by omega) h2).2 h4, (hMM b a h2 (by omega)).2 h5⟩
  rintro E h10 N10 D ⟨rfl, rfl, rfl, c, hcyc, hE⟩
  obtain ⟨E7, rfl⟩ := hE.ex
  refine n_then ?_
  clear hcy1
  obtain ⟨GL, hGL⟩ : ∃ GL, GL = (List.range lg).map (fun k => grpOf n (rg k)) := ⟨_, rfl⟩
  have hGLl : GL.length = lg := by rw [hGL]; simp
  have hGLk : ∀ k, k < lg → GL[k]? = some (grpOf n (rg k)) := fun k hk => by rw [hGL]; simp [hk]
  have hGok : ∀ g, g ∈ GL → g.Ok n := fun g hg => by
    rw [hGL, List.mem_map] at hg
    obtain ⟨k, hk, rfl⟩ := hg
    exact grp_ok hn1 (hms k (List.mem_range.1 hk))
  have hGml : ∀ g, g ∈ GL → g.ms.length ≤ 1024 := fun g hg => (hGok g hg).ml
  have hwlen : ∀ k, (if c = true then [] else allTo GL G k).length ≤ k * 1024 := fun k => by
    split
    · simp
    · exact allTo_len G hGml k
  refine c_seq ?_
  refine c_region (by kernel_rfl) ?_
  refine st_q (ok_assign (v := .slice _ _ _) rfl ⟨rfl, rfl, rfl⟩) ?_
  refine o_nil ?_
  refine n_then ?_
  refine c_seq ?_
  refine c_seq ?_
  refine c_region (by kernel_rfl) ?_
  refine st_q (ok_move (v := .slice _ _ _) rfl ⟨rfl, rfl, rfl⟩) ?_
  refine st_q (ok_len (sl rfl) rfl ⟨rfl, rfl, rfl⟩) ?_
  refine st_q (ok_move (v := .int _ _) rfl ⟨rfl, rfl, rfl⟩) ?_
  refine o_nil ?_
  refine n_then ?_
  have hLG0 : LG h X N sp bp bn be br n V G (.slice none 0 0) [] (.slice none 0 0) [] := ⟨hL.ext, hL.x9, hL.x13, hL.bm, .inl ⟨rfl, rfl⟩, .inl ⟨rfl, rfl⟩, fun _ hp => (by cases hp), fun _ hb => (by cases hb), fun _ hb => (by cases hb)⟩
  refine c_cut (fun E h' _ D => D = [] ∧ ∃ X ag2 ng cg2 gl aw nw cw, Sep m X h' ∧ LG h X N sp bp bn be br n V G (.slice ag2 ng cg2) gl (.slice aw nw cw) (if c = true then [] else allTo GL G lg) ∧ gl.map Prod.fst = GL ∧ Fr E [(9, .pointer (some ⟨N, 0, none⟩)), (13, .pointer (some ⟨bp, 0, none⟩)), (26, .slice aw nw cw)]) ?_ ?_
  · skip
    refine c_block ?_
    refine c_loop (fun k E h' _ D => D = [] ∧ k ≤ lg ∧ ∃ X ag2 ng cg2 gl aw nw cw, Sep m X h' ∧ LG h X N sp bp bn be br n V G (.slice ag2 ng cg2) gl (.slice aw nw cw) (if c = true then [] else allTo GL G (lg - k)) ∧ gl.map Prod.fst = GL.take (lg - k) ∧ Fr E [(3, .slice ag lg cg), (9, .pointer (some ⟨N, 0, none⟩)), (12, .int .i64 (n : Int)), (13, .pointer (some ⟨bp, 0, none⟩)), (14, .slice (some ⟨br, 0, none⟩) n n), (16, .bool c), (26, .slice aw nw cw), (198, .int .i64 (lg : Int)), (199, .int .i64 ((lg - k : Nat) : Int))]) (k := lg)
      ⟨rfl, Nat.le_refl _, X, none, 0, 0, [], none, 0, 0, hS, by rw [Nat.sub_self]; show LG h X N sp bp bn be br n V G (.slice none 0 0) [] (.slice none 0 0) (if c = true then [] else []); rw [ite_self]; exact hLG0, by rw [Nat.sub_self, List.take_zero]; rfl, rfl, rfl, rfl, rfl, rfl, rfl, rfl, rfl, by rw [Nat.sub_self]; rfl, trivial⟩ ?_
    clear hS hL hLG0
    rintro k E h11 N11 D ⟨rfl, hk, X, ag2, ng, cg2, gl, aw, nw, cw, hS, hL, hgl, hE⟩
    obtain ⟨E8, rfl⟩ := hE.ex
    refine c_seq ?_
    refine c_region (by kernel_rfl) ?_
    refine st_q (ok_lss rfl rfl ⟨rfl, rfl, rfl⟩) ?_
    refine o_nil ?_
    refine n_then ?_
    refine c_seq ?_
    refine c_cond_prop rfl (fun hc => ?_) (fun hc => ?_)
    · skip
      generalize hq : lg - k = q at *
      have hql : q < lg := by omega
      have hlast : Value.int .i64 ((q : Int) + 1) = .int .i64 ((lg - (k - 1) : Nat) : Int) := by congr 1; omega
      have hnext : lg - (k - 1) = q + 1 := by omega
      have hgq := hGLk q hql
      have gok := hGok _ (List.mem_of_getElem? hgq)
      have hmsq := hms q hql
      obtain ⟨rfl, gb, hraw⟩ := hgs q hql
      obtain ⟨am, cm, g6, hmem⟩ := hraw.c6
      have hl := hraw
      refine c_skip ?_
      refine n_then ?_
      refine c_seq ?_
      refine c_block ?_
      refine c_seq ?_
      refine c_region (by kernel_rfl) ?_
      refine st_q (ok_move (v := .int _ _) rfl ⟨rfl, rfl, rfl⟩) ?_
      refine st_q (ok_assign (v := .int _ _) rfl ⟨rfl, rfl, rfl⟩) ?_
      refine o_nil ?_
      refine n_then ?_
      refine c_seq ?_
      refine c_region (by kernel_rfl) ?_
      refine st_q (ok_move (v := .slice _ _ _) rfl ⟨rfl, rfl, rfl⟩) ?_
      refine st_q (ok_move (v := .int _ _) rfl ⟨rfl, rfl, rfl⟩) ?_
      refine st_q (ok_indexAddr (sl rfl) (ty rfl) rfl rfl (by omega) (by omega) (off := (og + q * 11)) (by omega) ⟨rfl, rfl, rfl⟩) ?_
      refine st_q (ok_assign (v := .pointer _) rfl ⟨rfl, rfl, rfl⟩) ?_
      refine o_nil ?_
      refine n_then ?_
      refine c_seq ?_
      refine c_region (by kernel_rfl) ?_
      refine st (ok_alloc (ty rfl) rfl (fun hN29 => ?_))
      refine o_nil ?_
      refine n_then ?_
      have x29 : X N11 = none := hS.oth.back (hN29 _ (Nat.le_refl _))
      generalize hN12 : N11 = N12 at *
      refine c_heap (fun h' _ => Sep m (hset X N12 (.cells (gz (.int .i64 0) (.bool false) (.int .i64 0) (.bool false) (.int .i64 0) (.bool false) (.int .i64 0) (.bool false) (.slice none 0 0) (.int .i64 0) (.int .i64 0) (.int .i64 0) (.string ⟨#[]⟩)) 51 (0, 0))) h') (hS.newX (hN29 _ (Nat.le_refl _)) _) ?_
      clear hS hN29
      rintro h12 N13 hS
      have hh0 : ∀ (o : Obj), Ext h (hset X N12 o) := fun o => hL.ext.fresh (hL.ext.back x29) _
      refine c_seq ?_
      refine c_region (by kernel_rfl) ?_
      refine st_q (ok_assign (v := .int _ _) rfl ⟨rfl, rfl, rfl⟩) ?_
      refine st_q (ok_assign (v := .int _ _) rfl ⟨rfl, rfl, rfl⟩) ?_
      refine o_nil ?_
      refine n_then ?_
      refine c_seq ?_
      refine c_cut (fun E h' _ D => D = [] ∧ Sep m (hset X N12 (.cells (gz (.int .i64 (((rg q).a0 % n : Nat) : Int)) (.bool (decide ((rg q).m0 % 3 = 0))) (.int .i64 (((rg q).b0 % n : Nat) : Int)) (.bool (decide ((rg q).m0 % 3 = 1))) (.int .i64 0) (.bool false) (.int .i64 0) (.bool false) (.slice none 0 0) (.int .i64 0) (.int .i64 0) (.int .i64 0) (.string ⟨#[]⟩)) 51 (0, 0))) h' ∧ Fr E [(3, .slice (some ⟨bg0, og, none⟩) lg cg), (9, .pointer (some ⟨N, 0, none⟩)), (12, .int .i64 (n : Int)), (13, .pointer (some ⟨bp, 0, none⟩)), (14, .slice (some ⟨br, 0, none⟩) n n), (16, .bool c), (26, .slice aw nw cw), (28, .pointer (some ⟨bg0, og + q * 11, none⟩)), (29, .pointer (some ⟨N12, 0, none⟩)), (198, .int .i64 (lg : Int)), (199, .int .i64 (q : Int)), (30, .int .i64 ((poff (rg q).m0 (rg q).a0 (rg q).b0 n : Nat) : Int))]) ?_ ?_
      · skip
        refine c_draw mixed [0, 0, 0, 0, 0, 0, 0, 0, 0, 0, 0, 0, 0, 0, 0, 0, 2, 0, 0, 0, 0, 2] 23 rfl [((0, 2), [((1, 2), [((2, 2), [((3, 2), [((4, 1), [((5, 2), [((6, 2), [((7, 2), [((8, 2), [((9, 1), [((10, 2), [((11, 2), [((12, 2), [((13, 2), [((14, 1), [((15, 2), [((16, 0), [((17, 2), [((18, 2), [((19, 2), [((20, 2), [((21, 0), [((22, 2), ())])])])])])])])])])])])])])])])])])])])])])])] (by kernel_rfl) (by kernel_rfl) ?_
        refine w_p rfl (fun _ _ => ok_move (v := .pointer _) rfl ⟨rfl, rfl, rfl⟩) ?_
        refine w_p rfl (fun _ _ => ok_nilCheck_ptr rfl ⟨rfl, rfl, rfl⟩) ?_
        refine w_p rfl (fun _ _ => ok_fieldAddr (fld rfl) rfl ⟨rfl, rfl, rfl⟩) ?_
        refine w_p rfl (fun _ _ => ok_indexAddrA (ar rfl) (ty rfl) rfl rfl (by omega) (by omega) (off := (og + q * 11 + 0)) (by omega) ⟨rfl, rfl, rfl⟩) ?_
        refine w_r rfl (fun _ _ hExt => ok_load (ty rfl) rfl (hExt _ _ (hS.oth _ _ (hh0 _ _ _ gb))) hraw.c0 ⟨rfl, rfl, rfl⟩) ?_
        refine w_p rfl (fun _ _ => ok_move (v := .pointer _) rfl ⟨rfl, rfl, rfl⟩) ?_
        refine w_p rfl (fun _ _ => ok_nilCheck_ptr rfl ⟨rfl, rfl, rfl⟩) ?_
        refine w_p rfl (fun _ _ => ok_fieldAddr (fld rfl) rfl ⟨rfl, rfl, rfl⟩) ?_
        refine w_p rfl (fun _ _ => ok_indexAddrA (ar rfl) (ty rfl) rfl rfl (by omega) (by omega) (off := (og + q * 11 + 2)) (by omega) ⟨rfl, rfl, rfl⟩) ?_
        refine w_r rfl (fun _ _ hExt => ok_load (ty rfl) rfl (hExt _ _ (hS.oth _ _ (hh0 _ _ _ gb))) hraw.c2 ⟨rfl, rfl, rfl⟩) ?_
        refine w_p rfl (fun _ _ => ok_move (v := .pointer _) rfl ⟨rfl, rfl, rfl⟩) ?_
        refine w_p rfl (fun _ _ => ok_nilCheck_ptr rfl ⟨rfl, rfl, rfl⟩) ?_
        refine w_p rfl (fun _ _ => ok_fieldAddr (fld rfl) rfl ⟨rfl, rfl, rfl⟩) ?_
        refine w_p rfl (fun _ _ => ok_indexAddrA (ar rfl) (ty rfl) rfl rfl (by omega) (by omega) (off := (og + q * 11 + 4)) (by omega) ⟨rfl, rfl, rfl⟩) ?_
        refine w_r rfl (fun _ _ hExt => ok_load (ty rfl) rfl (hExt _ _ (hS.oth _ _ (hh0 _ _ _ gb))) hraw.c4 ⟨rfl, rfl, rfl⟩) ?_
        refine w_p rfl (fun _ _ => ok_move (v := .int _ _) rfl ⟨rfl, rfl, rfl⟩) ?_
        refine w_e rfl (ok_call rfl ent5 (pattern_ok hl.l0 hl.l2 hl.l4 hn1 (by omega)) rfl ?_)
        rintro _ h13 N14 ⟨rfl, hx13⟩
        refine ⟨trivial, ?_⟩
        refine w_p rfl (fun _ _ => ok_move (v := .tuple _) rfl ⟨rfl, rfl, rfl⟩) ?_
        refine w_p rfl (fun _ _ => ok_extract rfl rfl ⟨rfl, rfl, rfl⟩) ?_
        refine w_p rfl (fun _ _ => ok_extract rfl rfl ⟨rfl, rfl, rfl⟩) ?_
        refine w_p rfl (fun _ _ => ok_fieldAddr (fld rfl) rfl ⟨rfl, rfl, rfl⟩) ?_
        refine w_e0 rfl (ok_storeL (ty rfl) rfl (v := .agg _) rfl rfl rfl rfl ((hS.ext hx13).oth _ _ (hset_same _ _ _)) (Nat.le_of_ble_eq_true rfl) ⟨trivial, ?_⟩)
        refine w_p rfl (fun _ _ => ok_assign (v := .int _ _) rfl ⟨rfl, rfl, rfl⟩) ?_
        refine w_nil ?_
        refine n_then ⟨rfl, ?_, rfl, rfl, rfl, rfl, rfl, rfl, rfl, rfl, rfl, rfl, rfl, rfl, trivial⟩; have hS2 := (hS.ext hx13).setX (hset_same _ _ _) (.cells (gz (.int .i64 (((rg q).a0 % n : Nat) : Int)) (.bool (decide ((rg q).m0 % 3 = 0))) (.int .i64 (((rg q).b0 % n : Nat) : Int)) (.bool (decide ((rg q).m0 % 3 = 1))) (.int .i64 0) (.bool false) (.int .i64 0) (.bool false) (.slice none 0 0) (.int .i64 0) (.int .i64 0) (.int .i64 0) (.string ⟨#[]⟩)) 51 (0, 0)); rw [hset_hset X] at hS2; exact hS2
      clear hS
      rintro E h13 N14 D ⟨rfl, hS, hE⟩
      obtain ⟨E9, rfl⟩ := hE.ex
      refine n_then ?_
      refine c_seq ?_
      refine c_cut (fun E h' _ D => D = [] ∧ Sep m (hset X N12 (.cells (gz (.int .i64 (((rg q).a0 % n : Nat) : Int)) (.bool (decide ((rg q).m0 % 3 = 0))) (.int .i64 (((rg q).b0 % n : Nat) : Int)) (.bool (decide ((rg q).m0 % 3 = 1))) (.int .i64 (((rg q).a1 % n : Nat) : Int)) (.bool (decide ((rg q).m1 % 3 = 0))) (.int .i64 (((rg q).b1 % n : Nat) : Int)) (.bool (decide ((rg q).m1 % 3 = 1))) (.slice none 0 0) (.int .i64 0) (.int .i64 0) (.int .i64 0) (.string ⟨#[]⟩)) 51 (0, 0))) h' ∧ Fr E [(3, .slice (some ⟨bg0, og, none⟩) lg cg), (9, .pointer (some ⟨N, 0, none⟩)), (12, .int .i64 (n : Int)), (13, .pointer (some ⟨bp, 0, none⟩)), (14, .slice (some ⟨br, 0, none⟩) n n), (16, .bool c), (26, .slice aw nw cw), (28, .pointer (some ⟨bg0, og + q * 11, none⟩)), (29, .pointer (some ⟨N12, 0, none⟩)), (198, .int .i64 (lg : Int)), (199, .int .i64 (q : Int)), (30, .int .i64 ((poff (rg q).m0 (rg q).a0 (rg q).b0 n : Nat) : Int)), (31, .int .i64 ((poff (rg q).m1 (rg q).a1 (rg q).b1 n : Nat) : Int))]) ?_ ?_
      · skip
        refine c_draw mixed [0, 0, 0, 0, 0, 0, 0, 0, 0, 0, 0, 0, 0, 0, 0, 0, 2, 0, 0, 0, 0, 2] 23 rfl [((0, 2), [((1, 2), [((2, 2), [((3, 2), [((4, 1), [((5, 2), [((6, 2), [((7, 2), [((8, 2), [((9, 1), [((10, 2), [((11, 2), [((12, 2), [((13, 2), [((14, 1), [((15, 2), [((16, 0), [((17, 2), [((18, 2), [((19, 2), [((20, 2), [((21, 0), [((22, 2), ())])])])])])])])])])])])])])])])])])])])])])])] (by kernel_rfl) (by kernel_rfl) ?_
        refine w_p rfl (fun _ _ => ok_move (v := .pointer _) rfl ⟨rfl, rfl, rfl⟩) ?_
        refine w_p rfl (fun _ _ => ok_nilCheck_ptr rfl ⟨rfl, rfl, rfl⟩) ?_
        refine w_p rfl (fun _ _ => ok_fieldAddr (fld rfl) rfl ⟨rfl, rfl, rfl⟩) ?_
        refine w_p rfl (fun _ _ => ok_indexAddrA (ar rfl) (ty rfl) rfl rfl (by omega) (by omega) (off := (og + q * 11 + 1)) (by omega) ⟨rfl, rfl, rfl⟩) ?_
        refine w_r rfl (fun _ _ hExt => ok_load (ty rfl) rfl (hExt _ _ (hS.oth _ _ (hh0 _ _ _ gb))) hraw.c1 ⟨rfl, rfl, rfl⟩) ?_
        refine w_p rfl (fun _ _ => ok_move (v := .pointer _) rfl ⟨rfl, rfl, rfl⟩) ?_
        refine w_p rfl (fun _ _ => ok_nilCheck_ptr rfl ⟨rfl, rfl, rfl⟩) ?_
        refine w_p rfl (fun _ _ => ok_fieldAddr (fld rfl) rfl ⟨rfl, rfl, rfl⟩) ?_
        refine w_p rfl (fun _ _ => ok_indexAddrA (ar rfl) (ty rfl) rfl rfl (by omega) (by omega) (off := (og + q * 11 + 3)) (by omega) ⟨rfl, rfl, rfl⟩) ?_
        refine w_r rfl (fun _ _ hExt => ok_load (ty rfl) rfl (hExt _ _ (hS.oth _ _ (hh0 _ _ _ gb))) hraw.c3 ⟨rfl, rfl, rfl⟩) ?_
        refine w_p rfl (fun _ _ => ok_move (v := .pointer _) rfl ⟨rfl, rfl, rfl⟩) ?_
        refine w_p rfl (fun _ _ => ok_nilCheck_ptr rfl ⟨rfl, rfl, rfl⟩) ?_
        refine w_p rfl (fun _ _ => ok_fieldAddr (fld rfl) rfl ⟨rfl, rfl, rfl⟩) ?_
        refine w_p rfl (fun _ _ => ok_indexAddrA (ar rfl) (ty rfl) rfl rfl (by omega) (by omega) (off := (og + q * 11 + 5)) (by omega) ⟨rfl, rfl, rfl⟩) ?_
        refine w_r rfl (fun _ _ hExt => ok_load (ty rfl) rfl (hExt _ _ (hS.oth _ _ (hh0 _ _ _ gb))) hraw.c5 ⟨rfl, rfl, rfl⟩) ?_
        refine w_p rfl (fun _ _ => ok_move (v := .int _ _) rfl ⟨rfl, rfl, rfl⟩) ?_
        refine w_e rfl (ok_call rfl ent5 (pattern_ok hl.l1 hl.l3 hl.l5 hn1 (by omega)) rfl ?_)
        rintro _ h14 N15 ⟨rfl, hx14⟩
        refine ⟨trivial, ?_⟩
        refine w_p rfl (fun _ _ => ok_move (v := .tuple _) rfl ⟨rfl, rfl, rfl⟩) ?_
        refine w_p rfl (fun _ _ => ok_extract rfl rfl ⟨rfl, rfl, rfl⟩) ?_
        refine w_p rfl (fun _ _ => ok_extract rfl rfl ⟨rfl, rfl, rfl⟩) ?_
        refine w_p rfl (fun _ _ => ok_fieldAddr (fld rfl) rfl ⟨rfl, rfl, rfl⟩) ?_
        refine w_e0 rfl (ok_storeL (ty rfl) rfl (v := .agg _) rfl rfl rfl rfl ((hS.ext hx14).oth _ _ (hset_same _ _ _)) (Nat.le_of_ble_eq_true rfl) ⟨trivial, ?_⟩)
        refine w_p rfl (fun _ _ => ok_assign (v := .int _ _) rfl ⟨rfl, rfl, rfl⟩) ?_
        refine w_nil ?_
        refine n_then ⟨rfl, ?_, rfl, rfl, rfl, rfl, rfl, rfl, rfl, rfl, rfl, rfl, rfl, rfl, rfl, trivial⟩; have hS2 := (hS.ext hx14).setX (hset_same _ _ _) (.cells (gz (.int .i64 (((rg q).a0 % n : Nat) : Int)) (.bool (decide ((rg q).m0 % 3 = 0))) (.int .i64 (((rg q).b0 % n : Nat) : Int)) (.bool (decide ((rg q).m0 % 3 = 1))) (.int .i64 (((rg q).a1 % n : Nat) : Int)) (.bool (decide ((rg q).m1 % 3 = 0))) (.int .i64 (((rg q).b1 % n : Nat) : Int)) (.bool (decide ((rg q).m1 % 3 = 1))) (.slice none 0 0) (.int .i64 0) (.int .i64 0) (.int .i64 0) (.string ⟨#[]⟩)) 51 (0, 0)); rw [hset_hset X] at hS2; exact hS2
      clear hS
      rintro E h14 N15 D ⟨rfl, hS, hE⟩
      obtain ⟨E10, rfl⟩ := hE.ex
      refine n_then ?_
      have hrm := room_pos hn1 (rg q)
      have hrn : room n (rg q) ≤ n := Nat.sub_le _ _
      refine c_seq ?_
      refine c_cut (fun E h' N' D => D = [] ∧ h' = h14 ∧ N' = N15 ∧ Fr E [(3, .slice (some ⟨bg0, og, none⟩) lg cg), (9, .pointer (some ⟨N, 0, none⟩)), (12, .int .i64 (n : Int)), (13, .pointer (some ⟨bp, 0, none⟩)), (14, .slice (some ⟨br, 0, none⟩) n n), (16, .bool c), (26, .slice aw nw cw), (28, .pointer (some ⟨bg0, og + q * 11, none⟩)), (29, .pointer (some ⟨N12, 0, none⟩)), (198, .int .i64 (lg : Int)), (199, .int .i64 (q : Int)), (32, .int .i64 ((room n (rg q) : Nat) : Int))]) ?_ ?_
      · skip
        have hp1 := poff_lt (md := (rg q).m0) (a := (rg q).a0) (b := (rg q).b0) hn1
        have hp2 := poff_lt (md := (rg q).m1) (a := (rg q).a1) (b := (rg q).b1) hn1
        have hmx : (if ((poff (rg q).m1 (rg q).a1 (rg q).b1 n : Nat) : Int) > ((poff (rg q).m0 (rg q).a0 (rg q).b0 n : Nat) : Int) then ((poff (rg q).m1 (rg q).a1 (rg q).b1 n : Nat) : Int) else ((poff (rg q).m0 (rg q).a0 (rg q).b0 n : Nat) : Int)) = ((max (poff (rg q).m0 (rg q).a0 (rg q).b0 n) (poff (rg q).m1 (rg q).a1 (rg q).b1 n) : Nat) : Int) := by
          split <;> omega
        refine c_region (by kernel_rfl) ?_
        refine st_q (ok_move (v := .int _ _) rfl ⟨rfl, rfl, rfl⟩) ?_
        refine st_q (ok_move (v := .int _ _) rfl ⟨rfl, rfl, rfl⟩) ?_
        refine st_q (ok_move (v := .int _ _) rfl ⟨rfl, rfl, rfl⟩) ?_
        refine st_q (ok_max rfl rfl ⟨rfl, rfl, rfl⟩) ?_
        refine st_q (ok_sub rfl rfl (by rw [hmx]; omega) (by rw [hmx]; omega) ⟨rfl, rfl, rfl⟩) ?_
        refine st_q (ok_assign (v := .int _ _) rfl ⟨rfl, rfl, rfl⟩) ?_
        refine o_nil ?_
        refine n_then ⟨rfl, rfl, rfl, rfl, rfl, rfl, rfl, rfl, rfl, rfl, rfl, rfl, rfl, rfl, ?_, trivial⟩
        show Value.int .i64 ((n : Int) - (if _ then _ else _)) = _
        rw [hmx]
        congr 1
        unfold room; omega
      rintro E h15 N16 D ⟨rfl, rfl, rfl, hE⟩
      obtain ⟨E11, rfl⟩ := hE.ex
      refine n_then ?_
      refine c_seq ?_
      refine c_region (by kernel_rfl) ?_
      refine st_q (ok_move (v := .pointer _) rfl ⟨rfl, rfl, rfl⟩) ?_
      refine st_q (ok_nilCheck_ptr rfl ⟨rfl, rfl, rfl⟩) ?_
      refine st_q (ok_fieldAddr (fld rfl) rfl ⟨rfl, rfl, rfl⟩) ?_
      refine st_q (ok_load (ty rfl) rfl (hS.oth _ _ (hh0 _ _ _ gb)) g6 ⟨rfl, rfl, rfl⟩) ?_
      refine st_q (ok_len (sl rfl) rfl ⟨rfl, rfl, rfl⟩) ?_
      refine st (ok_makeSlice (sl rfl) (ty rfl) rfl rfl (by omega) (by omega) (by omega) (by omega) (l' := ((rg q).ms.length)) (c' := ((rg q).ms.length)) (by omega) (by omega) (fun hN257 => ?_))
      refine st_q (ok_fieldAddr (fld rfl) rfl ⟨rfl, rfl, rfl⟩) ?_
      refine st0 (ok_store (ty rfl) rfl (v := .slice _ _ _) rfl rfl ((hS.newX (hN257 _ (Nat.le_refl _)) _).oth _ _ ((hset_ne _ _ (ne_of_none (hset_same _ _ _) (hS.oth.back (hN257 _ (Nat.le_refl _))))).trans (hset_same _ _ _))) (Nat.le_of_ble_eq_true rfl) ?_)
      refine o_nil ?_
      refine n_then ?_
      have nb : N12 ≠ N16 := ne_of_none (hset_same X N12 (.cells (gz (.int .i64 (((rg q).a0 % n : Nat) : Int)) (.bool (decide ((rg q).m0 % 3 = 0))) (.int .i64 (((rg q).b0 % n : Nat) : Int)) (.bool (decide ((rg q).m0 % 3 = 1))) (.int .i64 (((rg q).a1 % n : Nat) : Int)) (.bool (decide ((rg q).m1 % 3 = 0))) (.int .i64 (((rg q).b1 % n : Nat) : Int)) (.bool (decide ((rg q).m1 % 3 = 1))) (.slice none 0 0) (.int .i64 0) (.int .i64 0) (.int .i64 0) (.string ⟨#[]⟩)) 51 (0, 0))) (hS.oth.back (hN257 _ (Nat.le_refl _)))
      have xbm : X N16 = none := by
        have h1 := hS.oth.back (hN257 _ (Nat.le_refl _))
        rwa [hset_ne _ _ nb.symm] at h1
      have hSm := (hS.newX (hN257 _ (Nat.le_refl _)) (.cells (madeCells #[.int .i64 0] ((rg q).ms.length * 1)) 3 (0, 0))).setX ((hset_ne _ _ nb).trans (hset_same _ _ _)) (.cells (gz (.int .i64 (((rg q).a0 % n : Nat) : Int)) (.bool (decide ((rg q).m0 % 3 = 0))) (.int .i64 (((rg q).b0 % n : Nat) : Int)) (.bool (decide ((rg q).m0 % 3 = 1))) (.int .i64 (((rg q).a1 % n : Nat) : Int)) (.bool (decide ((rg q).m1 % 3 = 0))) (.int .i64 (((rg q).b1 % n : Nat) : Int)) (.bool (decide ((rg q).m1 % 3 = 1))) (.slice (some ⟨N16, 0, none⟩) (rg q).ms.length (rg q).ms.length) (.int .i64 0) (.int .i64 0) (.int .i64 0) (.string ⟨#[]⟩)) 51 (0, 0))
      rw [hset_comm X _ _ nb, hset_hset (hset X N16 _)] at hSm
      generalize hbmE : N16 = bm at *
      refine c_heap (fun h' _ => Sep m (hset (hset X bm (.cells (madeCells #[.int .i64 0] ((rg q).ms.length * 1)) 3 (0, 0))) N12 (.cells (gz (.int .i64 (((rg q).a0 % n : Nat) : Int)) (.bool (decide ((rg q).m0 % 3 = 0))) (.int .i64 (((rg q).b0 % n : Nat) : Int)) (.bool (decide ((rg q).m0 % 3 = 1))) (.int .i64 (((rg q).a1 % n : Nat) : Int)) (.bool (decide ((rg q).m1 % 3 = 0))) (.int .i64 (((rg q).b1 % n : Nat) : Int)) (.bool (decide ((rg q).m1 % 3 = 1))) (.slice (some ⟨bm, 0, none⟩) (rg q).ms.length (rg q).ms.length) (.int .i64 0) (.int .i64 0) (.int .i64 0) (.string ⟨#[]⟩)) 51 (0, 0))) h') hSm ?_
      clear hS hSm hN257 hbmE
      rintro h16 N17 hS
      have hh1 : ∀ (o o' : Obj), Ext h (hset (hset X bm o) N12 o') := fun o o' => (hL.ext.fresh (hL.ext.back xbm) _).fresh (hL.ext.back x29) _
      refine c_seq ?_
      refine c_seq ?_
      refine c_region (by kernel_rfl) ?_
      refine st_q (ok_move (v := .pointer _) rfl ⟨rfl, rfl, rfl⟩) ?_
      refine st_q (ok_nilCheck_ptr rfl ⟨rfl, rfl, rfl⟩) ?_
      refine st_q (ok_fieldAddr (fld rfl) rfl ⟨rfl, rfl, rfl⟩) ?_
      refine st_q (ok_load (ty rfl) rfl (hS.oth _ _ (hh1 _ _ _ _ gb)) g6 ⟨rfl, rfl, rfl⟩) ?_
      refine st_q (ok_len (sl rfl) rfl ⟨rfl, rfl, rfl⟩) ?_
      refine st_q (ok_move (v := .int _ _) rfl ⟨rfl, rfl, rfl⟩) ?_
      refine o_nil ?_
      refine n_then ?_
      refine c_cut (fun E h' _ D => D = [] ∧ (∃ mc, Sep m (hset (hset X bm (.cells mc 3 (0, 0))) N12 (.cells (gz (.int .i64 (((rg q).a0 % n : Nat) : Int)) (.bool (decide ((rg q).m0 % 3 = 0))) (.int .i64 (((rg q).b0 % n : Nat) : Int)) (.bool (decide ((rg q).m0 % 3 = 1))) (.int .i64 (((rg q).a1 % n : Nat) : Int)) (.bool (decide ((rg q).m1 % 3 = 0))) (.int .i64 (((rg q).b1 % n : Nat) : Int)) (.bool (decide ((rg q).m1 % 3 = 1))) (.slice (some ⟨bm, 0, none⟩) (rg q).ms.length (rg q).ms.length) (.int .i64 0) (.int .i64 0) (.int .i64 0) (.string ⟨#[]⟩)) 51 (0, 0))) h' ∧ ∀ (i x : Nat), (rg q).ms[i]? = some x → mc[i]? = some (.int .i64 ((x % room n (rg q) : Nat) : Int))) ∧ Fr E [(3, .slice (some ⟨bg0, og, none⟩) lg cg), (9, .pointer (some ⟨N, 0, none⟩)), (12, .int .i64 (n : Int)), (13, .pointer (some ⟨bp, 0, none⟩)), (14, .slice (some ⟨br, 0, none⟩) n n), (16, .bool c), (26, .slice aw nw cw), (28, .pointer (some ⟨bg0, og + q * 11, none⟩)), (29, .pointer (some ⟨N12, 0, none⟩)), (198, .int .i64 (lg : Int)), (199, .int .i64 (q : Int))]) ?_ ?_
      · skip
        refine c_block ?_
        refine c_loop (fun k2 E h' _ D => D = [] ∧ k2 ≤ (rg q).ms.length ∧ (∃ mc, Sep m (hset (hset X bm (.cells mc 3 (0, 0))) N12 (.cells (gz (.int .i64 (((rg q).a0 % n : Nat) : Int)) (.bool (decide ((rg q).m0 % 3 = 0))) (.int .i64 (((rg q).b0 % n : Nat) : Int)) (.bool (decide ((rg q).m0 % 3 = 1))) (.int .i64 (((rg q).a1 % n : Nat) : Int)) (.bool (decide ((rg q).m1 % 3 = 0))) (.int .i64 (((rg q).b1 % n : Nat) : Int)) (.bool (decide ((rg q).m1 % 3 = 1))) (.slice (some ⟨bm, 0, none⟩) (rg q).ms.length (rg q).ms.length) (.int .i64 0) (.int .i64 0) (.int .i64 0) (.string ⟨#[]⟩)) 51 (0, 0))) h' ∧ mc.size = (rg q).ms.length ∧ ∀ (i x : Nat), i < (rg q).ms.length - k2 → (rg q).ms[i]? = some x → mc[i]? = some (.int .i64 ((x % room n (rg q) : Nat) : Int))) ∧ Fr E [(3, .slice (some ⟨bg0, og, none⟩) lg cg), (9, .pointer (some ⟨N, 0, none⟩)), (12, .int .i64 (n : Int)), (13, .pointer (some ⟨bp, 0, none⟩)), (14, .slice (some ⟨br, 0, none⟩) n n), (16, .bool c), (26, .slice aw nw cw), (28, .pointer (some ⟨bg0, og + q * 11, none⟩)), (29, .pointer (some ⟨N12, 0, none⟩)), (198, .int .i64 (lg : Int)), (199, .int .i64 (q : Int)), (32, .int .i64 ((room n (rg q) : Nat) : Int)), (262, .slice am (rg q).ms.length cm), (263, .int .i64 ((rg q).ms.length : Int)), (264, .int .i64 (((rg q).ms.length - k2 : Nat) : Int))]) (k := (rg q).ms.length)
          ⟨rfl, Nat.le_refl _, ⟨_, hS, made_size, fun i x hi => by omega⟩, rfl, rfl, rfl, rfl, rfl, rfl, rfl, rfl, rfl, rfl, rfl, rfl, rfl, rfl, by rw [Nat.sub_self]; rfl, trivial⟩ ?_
        clear hS
        rintro k2 E h17 N18 D ⟨rfl, hk2, ⟨mc, hS, hmz, hmv⟩, hE⟩
        obtain ⟨E12, rfl⟩ := hE.ex
        refine c_seq ?_
        refine c_region (by kernel_rfl) ?_
        refine st_q (ok_lss rfl rfl ⟨rfl, rfl, rfl⟩) ?_
        refine o_nil ?_
        refine n_then ?_
        refine c_seq ?_
        refine c_cond_prop rfl (fun hc2 => ?_) (fun hc2 => ?_)
        · skip
          generalize hp : (rg q).ms.length - k2 = p at *
          have hpl : p < (rg q).ms.length := by omega
          have hgp := List.getElem?_eq_getElem hpl
          have hx256 := hl.lm _ (List.mem_of_getElem? hgp)
          generalize hxv : (rg q).ms[p] = x at *
          obtain ⟨bi, om, mi, ti, fi, rfl, gi, gix⟩ := hmem p x hgp
          have gbm : (hset (hset X bm (.cells mc 3 (0, 0))) N12 (.cells (gz (.int .i64 (((rg q).a0 % n : Nat) : Int)) (.bool (decide ((rg q).m0 % 3 = 0))) (.int .i64 (((rg q).b0 % n : Nat) : Int)) (.bool (decide ((rg q).m0 % 3 = 1))) (.int .i64 (((rg q).a1 % n : Nat) : Int)) (.bool (decide ((rg q).m1 % 3 = 0))) (.int .i64 (((rg q).b1 % n : Nat) : Int)) (.bool (decide ((rg q).m1 % 3 = 1))) (.slice (some ⟨bm, 0, none⟩) (rg q).ms.length (rg q).ms.length) (.int .i64 0) (.int .i64 0) (.int .i64 0) (.string ⟨#[]⟩)) 51 (0, 0))) bm = some (.cells mc 3 (0, 0)) := (hset_ne _ _ nb.symm).trans (hset_same _ _ _)
          refine c_skip ?_
          refine n_then ?_
          refine c_seq ?_
          refine c_block ?_
          refine c_seq ?_
          refine c_region (by kernel_rfl) ?_
          refine st_q (ok_move (v := .int _ _) rfl ⟨rfl, rfl, rfl⟩) ?_
          refine st_q (ok_indexAddr (sl rfl) (ty rfl) rfl rfl (by omega) (by omega) (off := (om + p)) (by omega) ⟨rfl, rfl, rfl⟩) ?_
          refine st_q (ok_load (ty rfl) rfl (hS.oth _ _ (hh1 _ _ _ _ gi)) gix ⟨rfl, rfl, rfl⟩) ?_
          refine st_q (ok_assign (v := .int _ _) rfl ⟨rfl, rfl, rfl⟩) ?_
          refine st_q (ok_assign (v := .int _ _) rfl ⟨rfl, rfl, rfl⟩) ?_
          refine o_nil ?_
          refine n_then ?_
          refine c_cut (fun E h' _ D => D = [] ∧ Sep m (hset (hset X bm (.cells (setA mc p (.int .i64 ((x % room n (rg q) : Nat) : Int))) 3 (0, 0))) N12 (.cells (gz (.int .i64 (((rg q).a0 % n : Nat) : Int)) (.bool (decide ((rg q).m0 % 3 = 0))) (.int .i64 (((rg q).b0 % n : Nat) : Int)) (.bool (decide ((rg q).m0 % 3 = 1))) (.int .i64 (((rg q).a1 % n : Nat) : Int)) (.bool (decide ((rg q).m1 % 3 = 0))) (.int .i64 (((rg q).b1 % n : Nat) : Int)) (.bool (decide ((rg q).m1 % 3 = 1))) (.slice (some ⟨bm, 0, none⟩) (rg q).ms.length (rg q).ms.length) (.int .i64 0) (.int .i64 0) (.int .i64 0) (.string ⟨#[]⟩)) 51 (0, 0))) h' ∧ Fr E [(3, .slice (some ⟨bg0, og, none⟩) lg cg), (9, .pointer (some ⟨N, 0, none⟩)), (12, .int .i64 (n : Int)), (13, .pointer (some ⟨bp, 0, none⟩)), (14, .slice (some ⟨br, 0, none⟩) n n), (16, .bool c), (26, .slice aw nw cw), (28, .pointer (some ⟨bg0, og + q * 11, none⟩)), (29, .pointer (some ⟨N12, 0, none⟩)), (198, .int .i64 (lg : Int)), (199, .int .i64 (q : Int)), (32, .int .i64 ((room n (rg q) : Nat) : Int)), (262, .slice (some ⟨bi, om, none⟩) (rg q).ms.length cm), (263, .int .i64 ((rg q).ms.length : Int)), (264, .int .i64 (p : Int))]) ?_ ?_
          · skip
            refine c_draw mixed [0, 0, 0, 0, 0, 0, 0, 0, 2] 9 rfl [((0, 2), [((1, 1), [((2, 2), [((3, 2), [((4, 2), [((5, 2), [((6, 2), [((7, 2), [((8, 0), ())])])])])])])])])] (by kernel_rfl) (by kernel_rfl) ?_
            refine w_p rfl (fun _ _ => ok_fieldAddr (fld rfl) rfl ⟨rfl, rfl, rfl⟩) ?_
            refine w_r rfl (fun _ _ hExt => ok_load (ty rfl) rfl (hExt _ _ (hS.oth _ _ (hset_same _ _ _))) rfl ⟨rfl, rfl, rfl⟩) ?_
            refine w_p rfl (fun _ _ => ok_move (v := .int _ _) rfl ⟨rfl, rfl, rfl⟩) ?_
            refine w_p rfl (fun _ _ => ok_move (v := .int _ _) rfl ⟨rfl, rfl, rfl⟩) ?_
            refine w_p rfl (fun _ _ => ok_convert (ik rfl) (ik rfl) rfl (wrap_i64 (by omega) (by omega)) ⟨rfl, rfl, rfl⟩) ?_
            refine w_p rfl (fun _ _ => ok_move (v := .int _ _) rfl ⟨rfl, rfl, rfl⟩) ?_
            refine w_p rfl (fun _ _ => ok_rem rfl rfl (by omega) (by omega) ⟨rfl, rfl, rfl⟩) ?_
            refine w_p rfl (fun _ _ => ok_indexAddr (sl rfl) (ty rfl) rfl rfl (by omega) (by omega) (off := p) (by omega) ⟨rfl, rfl, rfl⟩) ?_
            refine w_e0 rfl (ok_store (ty rfl) rfl (v := .int _ _) rfl rfl (hS.oth _ _ gbm) (by omega) ⟨trivial, ?_⟩)
            refine w_nil ?_
            refine n_then ⟨rfl, ?_, rfl, rfl, rfl, rfl, rfl, rfl, rfl, rfl, rfl, rfl, rfl, rfl, rfl, rfl, rfl, trivial⟩; have hS2 := hS.setX gbm (.cells (setA mc p (.int .i64 ((x % room n (rg q) : Nat) : Int))) 3 (0, 0)); rw [hset_comm (hset X bm _) _ _ nb, hset_hset X] at hS2; exact hS2
          clear hS
          rintro E h18 N19 D ⟨rfl, hS, hE⟩
          obtain ⟨E13, rfl⟩ := hE.ex
          refine n_block (n_then ?_)
          refine c_region (by kernel_rfl) ?_
          refine st_q (ok_add rfl rfl (by omega) (by omega) ⟨rfl, rfl, rfl⟩) ?_
          refine st_q (ok_move (v := .int _ _) rfl ⟨rfl, rfl, rfl⟩) ?_
          refine o_nil ?_
          refine n_then ⟨k2 - 1, by omega, rfl, by omega, ⟨_, hS, by rw [setA_size]; exact hmz, fun i y hi hy => ?_⟩, rfl, rfl, rfl, rfl, rfl, rfl, rfl, rfl, rfl, rfl, rfl, rfl, rfl, rfl, ?_, trivial⟩
          · by_cases e : i = p
            · subst e
              rw [hgp] at hy; cases hy
              rw [setA_same _ _ (by omega)]
            · rw [setA_ne _ _ (fun e2 => e e2.symm)]
              exact hmv i y (by omega) hy
          · show Value.int .i64 ((p : Int) + 1) = _
            congr 1; omega
        · skip
          refine c_exit ?_
          exact x_then (x_then (x_block (n_then ⟨rfl, ⟨mc, hS, fun i x hi => hmv i x (by have := (List.getElem?_eq_some_iff.1 hi).1; omega) hi⟩, rfl, rfl, rfl, rfl, rfl, rfl, rfl, rfl, rfl, rfl, rfl, trivial⟩)))
      clear hS
      rintro E h17 N18 D ⟨rfl, ⟨mc, hS, hmc⟩, hE⟩
      obtain ⟨E12, rfl⟩ := hE.ex
      refine n_then ?_
      have hXm : Ext X (hset X bm (.cells mc 3 (0, 0))) := (Ext.refl X).fresh xbm _
      have hL := hL.mono hXm
      have x29 : (hset X bm (.cells mc 3 (0, 0))) N12 = none := (hset_ne _ _ nb).trans x29
      have xm := hset_same X bm (.cells mc 3 (0, 0))
      generalize hset X bm (.cells mc 3 (0, 0)) = X at *
      clear hXm xbm hh0 hh1
      have hh0 : ∀ (o : Obj), Ext h (hset X N12 o) := fun o => hL.ext.fresh (hL.ext.back x29) _
      have hMem : MemAt X (grpOf n (rg q), bm) := ⟨mc, xm, fun i y hy => by
        simp only [grpOf, List.getElem?_map, Option.map_eq_some_iff] at hy
        obtain ⟨x, hx, rfl⟩ := hy
        exact hmc i x hx⟩
      refine c_seq ?_
      refine c_cut (fun E h' _ D => D = [] ∧ Sep m (hset X N12 (.cells (gz (.int .i64 (((rg q).a0 % n : Nat) : Int)) (.bool (decide ((rg q).m0 % 3 = 0))) (.int .i64 (((rg q).b0 % n : Nat) : Int)) (.bool (decide ((rg q).m0 % 3 = 1))) (.int .i64 (((rg q).a1 % n : Nat) : Int)) (.bool (decide ((rg q).m1 % 3 = 0))) (.int .i64 (((rg q).b1 % n : Nat) : Int)) (.bool (decide ((rg q).m1 % 3 = 1))) (.slice (some ⟨bm, 0, none⟩) (rg q).ms.length (rg q).ms.length) (.int .i64 (((rg q).s0 % (n + 1) : Nat) - 1 : Int)) (.int .i64 (((rg q).s1 % (n + 1) : Nat) - 1 : Int)) (.int .i64 0) (.string ⟨#[]⟩)) 51 (0, 0))) h' ∧ Fr E [(3, .slice (some ⟨bg0, og, none⟩) lg cg), (9, .pointer (some ⟨N, 0, none⟩)), (12, .int .i64 (n : Int)), (13, .pointer (some ⟨bp, 0, none⟩)), (14, .slice (some ⟨br, 0, none⟩) n n), (16, .bool c), (26, .slice aw nw cw), (28, .pointer (some ⟨bg0, og + q * 11, none⟩)), (29, .pointer (some ⟨N12, 0, none⟩)), (198, .int .i64 (lg : Int)), (199, .int .i64 (q : Int))]) ?_ ?_
      · skip
        have l7 := hl.l7
        have l8 := hl.l8
        have q01 : 0 ≤ ((rg q).s0 : Int) % ((n : Int) + 1) := Int.emod_nonneg _ (by omega)
        have q02 : ((rg q).s0 : Int) % ((n : Int) + 1) < (n : Int) + 1 := Int.emod_lt_of_pos _ (by omega)
        have q11 : 0 ≤ ((rg q).s1 : Int) % ((n : Int) + 1) := Int.emod_nonneg _ (by omega)
        have q12 : ((rg q).s1 : Int) % ((n : Int) + 1) < (n : Int) + 1 := Int.emod_lt_of_pos _ (by omega)
        refine c_draw mixed [0, 0, 0, 0, 0, 0, 0, 0, 0, 0, 0, 0, 0, 0, 0, 0, 0, 0, 0, 0, 0, 0, 2] 23 rfl [((0, 2), [((1, 2), [((2, 2), [((3, 2), [((4, 1), [((5, 2), [((6, 2), [((7, 2), [((8, 2), [((9, 2), [((10, 2), [((11, 2), [((12, 2), [((13, 2), [((14, 1), [((15, 2), [((16, 2), [((17, 2), [((18, 2), [((19, 2), [((20, 2), [((21, 2), [((22, 0), ())])])])])])])])])])])])])])])])])])])])])])])] (by kernel_rfl) (by kernel_rfl) ?_
        refine w_p rfl (fun _ _ => ok_move (v := .pointer _) rfl ⟨rfl, rfl, rfl⟩) ?_
        refine w_p rfl (fun _ _ => ok_nilCheck_ptr rfl ⟨rfl, rfl, rfl⟩) ?_
        refine w_p rfl (fun _ _ => ok_fieldAddr (fld rfl) rfl ⟨rfl, rfl, rfl⟩) ?_
        refine w_p rfl (fun _ _ => ok_indexAddrA (ar rfl) (ty rfl) rfl rfl (by omega) (by omega) (off := (og + q * 11 + 7)) (by omega) ⟨rfl, rfl, rfl⟩) ?_
        refine w_r rfl (fun _ _ hExt => ok_load (ty rfl) rfl (hExt _ _ (hS.oth _ _ (hh0 _ _ _ gb))) hraw.c7 ⟨rfl, rfl, rfl⟩) ?_
        refine w_p rfl (fun _ _ => ok_convert (ik rfl) (ik rfl) rfl (wrap_i64 (by omega) (by omega)) ⟨rfl, rfl, rfl⟩) ?_
        refine w_p rfl (fun _ _ => ok_move (v := .int _ _) rfl ⟨rfl, rfl, rfl⟩) ?_
        refine w_p rfl (fun _ _ => ok_add rfl rfl (by omega) (by omega) ⟨rfl, rfl, rfl⟩) ?_
        refine w_p rfl (fun _ _ => ok_rem rfl rfl (by omega) (by omega) ⟨rfl, rfl, rfl⟩) ?_
        refine w_p rfl (fun _ _ => ok_sub rfl rfl (by omega) (by omega) ⟨rfl, rfl, rfl⟩) ?_
        refine w_p rfl (fun _ _ => ok_move (v := .pointer _) rfl ⟨rfl, rfl, rfl⟩) ?_
        refine w_p rfl (fun _ _ => ok_nilCheck_ptr rfl ⟨rfl, rfl, rfl⟩) ?_
        refine w_p rfl (fun _ _ => ok_fieldAddr (fld rfl) rfl ⟨rfl, rfl, rfl⟩) ?_
        refine w_p rfl (fun _ _ => ok_indexAddrA (ar rfl) (ty rfl) rfl rfl (by omega) (by omega) (off := (og + q * 11 + 8)) (by omega) ⟨rfl, rfl, rfl⟩) ?_
        refine w_r rfl (fun _ _ hExt => ok_load (ty rfl) rfl (hExt _ _ (hS.oth _ _ (hh0 _ _ _ gb))) hraw.c8 ⟨rfl, rfl, rfl⟩) ?_
        refine w_p rfl (fun _ _ => ok_convert (ik rfl) (ik rfl) rfl (wrap_i64 (by omega) (by omega)) ⟨rfl, rfl, rfl⟩) ?_
        refine w_p rfl (fun _ _ => ok_move (v := .int _ _) rfl ⟨rfl, rfl, rfl⟩) ?_
        refine w_p rfl (fun _ _ => ok_add rfl rfl (by omega) (by omega) ⟨rfl, rfl, rfl⟩) ?_
        refine w_p rfl (fun _ _ => ok_rem rfl rfl (by omega) (by omega) ⟨rfl, rfl, rfl⟩) ?_
        refine w_p rfl (fun _ _ => ok_sub rfl rfl (by omega) (by omega) ⟨rfl, rfl, rfl⟩) ?_
        refine w_p rfl (fun _ _ => ok_build rfl (v := .agg #[.int .i64 (((rg q).s0 : Int) % ((n : Int) + 1) - 1), .int .i64 (((rg q).s1 : Int) % ((n : Int) + 1) - 1)]) (fun _ => by kernel_rfl) ⟨rfl, rfl, rfl⟩) ?_
        refine w_p rfl (fun _ _ => ok_fieldAddr (fld rfl) rfl ⟨rfl, rfl, rfl⟩) ?_
        refine w_e0 rfl (ok_storeL (ty rfl) rfl (v := .agg _) rfl rfl rfl rfl (hS.oth _ _ (hset_same _ _ _)) (Nat.le_of_ble_eq_true rfl) ⟨trivial, ?_⟩)
        refine w_nil ?_
        refine n_then ⟨rfl, ?_, rfl, rfl, rfl, rfl, rfl, rfl, rfl, rfl, rfl, rfl, rfl, trivial⟩; have hS2 := hS.setX (hset_same _ _ _) (.cells (gz (.int .i64 (((rg q).a0 % n : Nat) : Int)) (.bool (decide ((rg q).m0 % 3 = 0))) (.int .i64 (((rg q).b0 % n : Nat) : Int)) (.bool (decide ((rg q).m0 % 3 = 1))) (.int .i64 (((rg q).a1 % n : Nat) : Int)) (.bool (decide ((rg q).m1 % 3 = 0))) (.int .i64 (((rg q).b1 % n : Nat) : Int)) (.bool (decide ((rg q).m1 % 3 = 1))) (.slice (some ⟨bm, 0, none⟩) (rg q).ms.length (rg q).ms.length) (.int .i64 (((rg q).s0 % (n + 1) : Nat) - 1 : Int)) (.int .i64 (((rg q).s1 % (n + 1) : Nat) - 1 : Int)) (.int .i64 0) (.string ⟨#[]⟩)) 51 (0, 0)); rw [hset_hset X] at hS2; exact hS2
      clear hS
      rintro E h18 N19 D ⟨rfl, hS, hE⟩
      obtain ⟨E13, rfl⟩ := hE.ex
      refine n_then ?_
      obtain ⟨lk1, lk2⟩ := hl.lk
      refine c_seq ?_
      refine c_region (by kernel_rfl) ?_
      refine st_q (ok_move (v := .pointer _) rfl ⟨rfl, rfl, rfl⟩) ?_
      refine st_q (ok_nilCheck_ptr rfl ⟨rfl, rfl, rfl⟩) ?_
      refine st_q (ok_fieldAddr (fld rfl) rfl ⟨rfl, rfl, rfl⟩) ?_
      refine st_q (ok_load (ty rfl) rfl (hS.oth _ _ (hh0 _ _ _ gb)) hraw.c9 ⟨rfl, rfl, rfl⟩) ?_
      refine st_q (ok_convert (ik rfl) (ik rfl) rfl (wrap_i64 (by omega) (by omega)) ⟨rfl, rfl, rfl⟩) ?_
      refine st_q (ok_fieldAddr (fld rfl) rfl ⟨rfl, rfl, rfl⟩) ?_
      refine st0 (ok_store (ty rfl) rfl (v := .int _ _) rfl rfl (hS.oth _ _ (hset_same _ _ _)) (Nat.le_of_ble_eq_true rfl) ?_)
      refine o_nil ?_
      refine n_then ?_
      have hS2 := hS.setX (hset_same _ _ _) (.cells (gz (.int .i64 (((rg q).a0 % n : Nat) : Int)) (.bool (decide ((rg q).m0 % 3 = 0))) (.int .i64 (((rg q).b0 % n : Nat) : Int)) (.bool (decide ((rg q).m0 % 3 = 1))) (.int .i64 (((rg q).a1 % n : Nat) : Int)) (.bool (decide ((rg q).m1 % 3 = 0))) (.int .i64 (((rg q).b1 % n : Nat) : Int)) (.bool (decide ((rg q).m1 % 3 = 1))) (.slice (some ⟨bm, 0, none⟩) (rg q).ms.length (rg q).ms.length) (.int .i64 (((rg q).s0 % (n + 1) : Nat) - 1 : Int)) (.int .i64 (((rg q).s1 % (n + 1) : Nat) - 1 : Int)) (.int .i64 (rg q).keep) (.string ⟨#[]⟩)) 51 (0, 0))
      rw [hset_hset X] at hS2
      refine c_heap (fun h' _ => Sep m (hset X N12 (.cells (gz (.int .i64 (((rg q).a0 % n : Nat) : Int)) (.bool (decide ((rg q).m0 % 3 = 0))) (.int .i64 (((rg q).b0 % n : Nat) : Int)) (.bool (decide ((rg q).m0 % 3 = 1))) (.int .i64 (((rg q).a1 % n : Nat) : Int)) (.bool (decide ((rg q).m1 % 3 = 0))) (.int .i64 (((rg q).b1 % n : Nat) : Int)) (.bool (decide ((rg q).m1 % 3 = 1))) (.slice (some ⟨bm, 0, none⟩) (rg q).ms.length (rg q).ms.length) (.int .i64 (((rg q).s0 % (n + 1) : Nat) - 1 : Int)) (.int .i64 (((rg q).s1 % (n + 1) : Nat) - 1 : Int)) (.int .i64 (rg q).keep) (.string ⟨#[]⟩)) 51 (0, 0))) h') hS2 ?_
      clear hS hS2
      rintro h19 N20 hS
      refine c_seq ?_
      refine c_region (by kernel_rfl) ?_
      refine st_q (ok_move (v := .pointer _) rfl ⟨rfl, rfl, rfl⟩) ?_
      refine st_q (ok_nilCheck_ptr rfl ⟨rfl, rfl, rfl⟩) ?_
      refine st_q (ok_fieldAddr (fld rfl) rfl ⟨rfl, rfl, rfl⟩) ?_
      refine st_q (ok_load (ty rfl) rfl (hS.oth _ _ (hh0 _ _ _ gb)) hraw.c10 ⟨rfl, rfl, rfl⟩) ?_
      refine st_q (ok_fieldAddr (fld rfl) rfl ⟨rfl, rfl, rfl⟩) ?_
      refine st0 (ok_store (ty rfl) rfl (v := .string _) rfl rfl (hS.oth _ _ (hset_same _ _ _)) (Nat.le_of_ble_eq_true rfl) ?_)
      refine o_nil ?_
      refine n_then ?_
      have hS2 := hS.setX (hset_same _ _ _) (.cells (gz (.int .i64 (((rg q).a0 % n : Nat) : Int)) (.bool (decide ((rg q).m0 % 3 = 0))) (.int .i64 (((rg q).b0 % n : Nat) : Int)) (.bool (decide ((rg q).m0 % 3 = 1))) (.int .i64 (((rg q).a1 % n : Nat) : Int)) (.bool (decide ((rg q).m1 % 3 = 0))) (.int .i64 (((rg q).b1 % n : Nat) : Int)) (.bool (decide ((rg q).m1 % 3 = 1))) (.slice (some ⟨bm, 0, none⟩) (rg q).ms.length (rg q).ms.length) (.int .i64 (((rg q).s0 % (n + 1) : Nat) - 1 : Int)) (.int .i64 (((rg q).s1 % (n + 1) : Nat) - 1 : Int)) (.int .i64 (rg q).keep) (.string (rg q).ab)) 51 (0, 0))
      rw [hset_hset X] at hS2
      have hXg : Ext X (hset X N12 (.cells (gz (.int .i64 (((rg q).a0 % n : Nat) : Int)) (.bool (decide ((rg q).m0 % 3 = 0))) (.int .i64 (((rg q).b0 % n : Nat) : Int)) (.bool (decide ((rg q).m0 % 3 = 1))) (.int .i64 (((rg q).a1 % n : Nat) : Int)) (.bool (decide ((rg q).m1 % 3 = 0))) (.int .i64 (((rg q).b1 % n : Nat) : Int)) (.bool (decide ((rg q).m1 % 3 = 1))) (.slice (some ⟨bm, 0, none⟩) (rg q).ms.length (rg q).ms.length) (.int .i64 (((rg q).s0 % (n + 1) : Nat) - 1 : Int)) (.int .i64 (((rg q).s1 % (n + 1) : Nat) - 1 : Int)) (.int .i64 (rg q).keep) (.string (rg q).ab)) 51 (0, 0))) := (Ext.refl X).fresh x29 _
      have hng : blk (.slice ag2 ng cg2) ≠ some N12 := fun e => by
        obtain ⟨cs5, h5⟩ := hL.og.at e
        rw [x29] at h5; cases h5
      have hL := hL.mono hXg
      have xg := hset_same X N12 (.cells (gz (.int .i64 (((rg q).a0 % n : Nat) : Int)) (.bool (decide ((rg q).m0 % 3 = 0))) (.int .i64 (((rg q).b0 % n : Nat) : Int)) (.bool (decide ((rg q).m0 % 3 = 1))) (.int .i64 (((rg q).a1 % n : Nat) : Int)) (.bool (decide ((rg q).m1 % 3 = 0))) (.int .i64 (((rg q).b1 % n : Nat) : Int)) (.bool (decide ((rg q).m1 % 3 = 1))) (.slice (some ⟨bm, 0, none⟩) (rg q).ms.length (rg q).ms.length) (.int .i64 (((rg q).s0 % (n + 1) : Nat) - 1 : Int)) (.int .i64 (((rg q).s1 % (n + 1) : Nat) - 1 : Int)) (.int .i64 (rg q).keep) (.string (rg q).ab)) 51 (0, 0))
      have xm := hXg _ _ xm
      have hMem := hMem.ext hXg
      refine c_heap (fun h' _ => Sep m (hset X N12 (.cells (gz (.int .i64 (((rg q).a0 % n : Nat) : Int)) (.bool (decide ((rg q).m0 % 3 = 0))) (.int .i64 (((rg q).b0 % n : Nat) : Int)) (.bool (decide ((rg q).m0 % 3 = 1))) (.int .i64 (((rg q).a1 % n : Nat) : Int)) (.bool (decide ((rg q).m1 % 3 = 0))) (.int .i64 (((rg q).b1 % n : Nat) : Int)) (.bool (decide ((rg q).m1 % 3 = 1))) (.slice (some ⟨bm, 0, none⟩) (rg q).ms.length (rg q).ms.length) (.int .i64 (((rg q).s0 % (n + 1) : Nat) - 1 : Int)) (.int .i64 (((rg q).s1 % (n + 1) : Nat) - 1 : Int)) (.int .i64 (rg q).keep) (.string (rg q).ab)) 51 (0, 0))) h') hS2 ?_
      clear hS hS2 hXg hh0 x29
      generalize hset X N12 (.cells (gz (.int .i64 (((rg q).a0 % n : Nat) : Int)) (.bool (decide ((rg q).m0 % 3 = 0))) (.int .i64 (((rg q).b0 % n : Nat) : Int)) (.bool (decide ((rg q).m0 % 3 = 1))) (.int .i64 (((rg q).a1 % n : Nat) : Int)) (.bool (decide ((rg q).m1 % 3 = 0))) (.int .i64 (((rg q).b1 % n : Nat) : Int)) (.bool (decide ((rg q).m1 % 3 = 1))) (.slice (some ⟨bm, 0, none⟩) (rg q).ms.length (rg q).ms.length) (.int .i64 (((rg q).s0 % (n + 1) : Nat) - 1 : Int)) (.int .i64 (((rg q).s1 % (n + 1) : Nat) - 1 : Int)) (.int .i64 (rg q).keep) (.string (rg q).ab)) 51 (0, 0)) = X at *
      rintro h20 N21 hS
      have hgll : gl.length = q := by
        have := congrArg List.length hgl
        rw [List.length_map, List.length_take, hGLl] at this; omega
      have hgcl := gcells_len gl
      refine c_seq ?_
      refine c_region (by kernel_rfl) ?_
      refine st_q (ok_fieldAddr (fld rfl) rfl ⟨rfl, rfl, rfl⟩) ?_
      refine st_q (ok_load (ty rfl) rfl (hS.oth _ _ hL.x13) rfl ⟨rfl, rfl, rfl⟩) ?_
      refine st_q (ok_loadAgg (ty rfl) rfl (hS.oth _ _ xg) (Nat.le_of_ble_eq_true rfl) rfl ⟨rfl, rfl, rfl⟩) ?_
      refine st (ok_buildSlice (sl rfl) (ty rfl) rfl (vs := (gz (.int .i64 (((rg q).a0 % n : Nat) : Int)) (.bool (decide ((rg q).m0 % 3 = 0))) (.int .i64 (((rg q).b0 % n : Nat) : Int)) (.bool (decide ((rg q).m0 % 3 = 1))) (.int .i64 (((rg q).a1 % n : Nat) : Int)) (.bool (decide ((rg q).m1 % 3 = 0))) (.int .i64 (((rg q).b1 % n : Nat) : Int)) (.bool (decide ((rg q).m1 % 3 = 1))) (.slice (some ⟨bm, 0, none⟩) (rg q).ms.length (rg q).ms.length) (.int .i64 (((rg q).s0 % (n + 1) : Nat) - 1 : Int)) (.int .i64 (((rg q).s1 % (n + 1) : Nat) - 1 : Int)) (.int .i64 (rg q).keep) (.string (rg q).ab))) (by kernel_rfl) (by decide) (by decide) (fun hN314 => ?_))
      refine st (ok_append rfl (sl rfl) (ty rfl) rfl rfl (hL.og.ext (hS.oth.trans (Ext.push hN314 _))) rfl (hset_same _ _ _) (Nat.le_of_ble_eq_true rfl) (by simp [isOne]) (by decide) (by decide) (by omega) (by omega) (fun b' n' c' cs' N5' hcase hcz hnc hln htk hnq => ?_))
      have hgce : gcell (grpOf n (rg q), bm) = (gz (.int .i64 (((rg q).a0 % n : Nat) : Int)) (.bool (decide ((rg q).m0 % 3 = 0))) (.int .i64 (((rg q).b0 % n : Nat) : Int)) (.bool (decide ((rg q).m0 % 3 = 1))) (.int .i64 (((rg q).a1 % n : Nat) : Int)) (.bool (decide ((rg q).m1 % 3 = 0))) (.int .i64 (((rg q).b1 % n : Nat) : Int)) (.bool (decide ((rg q).m1 % 3 = 1))) (.slice (some ⟨bm, 0, none⟩) (rg q).ms.length (rg q).ms.length) (.int .i64 (((rg q).s0 % (n + 1) : Nat) - 1 : Int)) (.int .i64 (((rg q).s1 % (n + 1) : Nat) - 1 : Int)) (.int .i64 (rg q).keep) (.string (rg q).ab)).toList := by simp [gcell, grpOf]
      have hS5 := hS.fresh (hN314 _ (Nat.le_refl _)) (.cells (gz (.int .i64 (((rg q).a0 % n : Nat) : Int)) (.bool (decide ((rg q).m0 % 3 = 0))) (.int .i64 (((rg q).b0 % n : Nat) : Int)) (.bool (decide ((rg q).m0 % 3 = 1))) (.int .i64 (((rg q).a1 % n : Nat) : Int)) (.bool (decide ((rg q).m1 % 3 = 0))) (.int .i64 (((rg q).b1 % n : Nat) : Int)) (.bool (decide ((rg q).m1 % 3 = 1))) (.slice (some ⟨bm, 0, none⟩) (rg q).ms.length (rg q).ms.length) (.int .i64 (((rg q).s0 % (n + 1) : Nat) - 1 : Int)) (.int .i64 (((rg q).s1 % (n + 1) : Nat) - 1 : Int)) (.int .i64 (rg q).keep) (.string (rg q).ab)) 51 (0, 0))
      obtain ⟨X2, hS6, hL6, g13', hk6⟩ := LG.growG (p := (grpOf n (rg q), bm)) hS5 hL hbph hcase hcz hnc (by rw [hgce]; exact hln) (by rw [hgce]; exact htk) hMem
      refine st_q (ok_fieldAddr (fld rfl) rfl ⟨rfl, rfl, rfl⟩) ?_
      refine st0 (ok_store (ty rfl) rfl (v := .slice _ _ _) rfl rfl g13' (Nat.le_of_ble_eq_true rfl) ?_)
      refine o_nil ?_
      refine n_then ?_
      have xg6 := hk6 _ _ xg hng (ne_of_ty xg hL.x13 rfl)
      have xm6 := hk6 _ _ xm (hL.og.noty xm rfl) (ne_of_ty xm hL.x13 rfl)
      have hgl6 : (gl ++ [(grpOf n (rg q), bm)]).map Prod.fst = GL.take (q + 1) := by
        rw [List.map_append, hgl, List.take_add_one, hgq]; rfl
      have hmlen : (grpOf n (rg q)).ms.length = (rg q).ms.length := by simp [grpOf]
      have hmcg : ∀ (i y : Nat), (grpOf n (rg q)).ms[i]? = some y → mc[i]? = some (.int .i64 (y : Int)) := fun i y hy => by
        simp only [grpOf, List.getElem?_map, Option.map_eq_some_iff] at hy
        obtain ⟨x, hx, rfl⟩ := hy
        exact hmc i x hx
      refine c_heap (fun h' _ => Sep m X2 h') hS6 ?_
      clear hS hS5 hS6 hL hk6 xg xm hMem hng hcase hln htk hnq hcz hN314 g13' hgce hgcl
      generalize hset (hset h20 N21 _) b' _ = h20' at *
      rintro h21 N22 hS
      have hL := hL6
      clear hL6
      refine c_seq ?_
      refine c_seq ?_
      refine c_region (by kernel_rfl) ?_
      refine st_q (ok_move (v := .bool _) rfl ⟨rfl, rfl, rfl⟩) ?_
      refine o_nil ?_
      refine n_then ?_
      cases hcv : c with
      | true =>
        subst hcv
        refine c_cond_true rfl ?_
        refine c_exit ?_
        refine x_then (x_block (n_then ?_))
        skip
        refine c_region (by kernel_rfl) ?_
        refine st_q (ok_add rfl rfl (by omega) (by omega) ⟨rfl, rfl, rfl⟩) ?_
        refine st_q (ok_move (v := .int _ _) rfl ⟨rfl, rfl, rfl⟩) ?_
        refine o_nil ?_
        refine n_then ⟨k - 1, by omega, rfl, by omega, X2, some ⟨b', 0, none⟩, n', c', _, aw, nw, cw, hS, by rw [if_pos rfl] at hL ⊢; exact hL, by rw [hnext]; exact hgl6, rfl, rfl, rfl, rfl, rfl, rfl, rfl, rfl, hlast, trivial⟩
      | false =>
        subst hcv
        refine c_cond_false rfl ?_
        refine c_skip ?_
        refine n_then ?_
        rw [if_neg Bool.false_ne_true] at hL
        refine c_seq ?_
        skip
        refine c_region (by kernel_rfl) ?_
        refine st_q (ok_fieldAddr (fld rfl) rfl ⟨rfl, rfl, rfl⟩) ?_
        refine st_q (ok_load (ty rfl) rfl (hS.oth _ _ xg6) rfl ⟨rfl, rfl, rfl⟩) ?_
        refine st_q (ok_len (sl rfl) rfl ⟨rfl, rfl, rfl⟩) ?_
        refine st_q (ok_move (v := .int _ _) rfl ⟨rfl, rfl, rfl⟩) ?_
        refine o_nil ?_
        refine n_then ?_
        refine c_cut (fun E h' _ D => D = [] ∧ (∃ X aw nw cw, Sep m X h' ∧ LG h X N sp bp bn be br n V G (.slice (some ⟨b', 0, none⟩) n' c') (gl ++ [(grpOf n (rg q), bm)]) (.slice aw nw cw) (allTo GL G q ++ (grpOf n (rg q)).upto G (rg q).ms.length) ∧ Fr E [(3, .slice (some ⟨bg0, og, none⟩) lg cg), (9, .pointer (some ⟨N, 0, none⟩)), (12, .int .i64 (n : Int)), (13, .pointer (some ⟨bp, 0, none⟩)), (14, .slice (some ⟨br, 0, none⟩) n n), (16, .bool false), (26, .slice aw nw cw), (28, .pointer (some ⟨bg0, og + q * 11, none⟩)), (29, .pointer (some ⟨N12, 0, none⟩)), (198, .int .i64 (lg : Int)), (199, .int .i64 (q : Int))])) ?_ ?_
        · skip
          refine c_block ?_
          refine c_loop (fun k3 E h' _ D => D = [] ∧ k3 ≤ (rg q).ms.length ∧ (∃ X aw nw cw, Sep m X h' ∧ LG h X N sp bp bn be br n V G (.slice (some ⟨b', 0, none⟩) n' c') (gl ++ [(grpOf n (rg q), bm)]) (.slice aw nw cw) (allTo GL G q ++ (grpOf n (rg q)).upto G ((rg q).ms.length - k3)) ∧ X N12 = some (.cells (gz (.int .i64 (((rg q).a0 % n : Nat) : Int)) (.bool (decide ((rg q).m0 % 3 = 0))) (.int .i64 (((rg q).b0 % n : Nat) : Int)) (.bool (decide ((rg q).m0 % 3 = 1))) (.int .i64 (((rg q).a1 % n : Nat) : Int)) (.bool (decide ((rg q).m1 % 3 = 0))) (.int .i64 (((rg q).b1 % n : Nat) : Int)) (.bool (decide ((rg q).m1 % 3 = 1))) (.slice (some ⟨bm, 0, none⟩) (rg q).ms.length (rg q).ms.length) (.int .i64 (((rg q).s0 % (n + 1) : Nat) - 1 : Int)) (.int .i64 (((rg q).s1 % (n + 1) : Nat) - 1 : Int)) (.int .i64 (rg q).keep) (.string (rg q).ab)) 51 (0, 0)) ∧ X bm = some (.cells mc 3 (0, 0)) ∧ Fr E [(3, .slice (some ⟨bg0, og, none⟩) lg cg), (9, .pointer (some ⟨N, 0, none⟩)), (12, .int .i64 (n : Int)), (13, .pointer (some ⟨bp, 0, none⟩)), (14, .slice (some ⟨br, 0, none⟩) n n), (16, .bool false), (26, .slice aw nw cw), (28, .pointer (some ⟨bg0, og + q * 11, none⟩)), (29, .pointer (some ⟨N12, 0, none⟩)), (198, .int .i64 (lg : Int)), (199, .int .i64 (q : Int)), (319, (.slice (some ⟨bm, 0, none⟩) (rg q).ms.length (rg q).ms.length)), (320, .int .i64 ((rg q).ms.length : Int)), (321, .int .i64 (((rg q).ms.length - k3 : Nat) : Int))])) (k := (rg q).ms.length)
            ⟨rfl, Nat.le_refl _, X2, aw, nw, cw, hS, by rw [Nat.sub_self]; show LG h X2 N sp bp bn be br n V G _ _ _ (allTo GL G q ++ []); rw [List.append_nil]; exact hL, xg6, xm6, rfl, rfl, rfl, rfl, rfl, rfl, rfl, rfl, rfl, rfl, rfl, rfl, rfl, by rw [Nat.sub_self]; rfl, trivial⟩ ?_
          clear hS hL xg6 xm6
          rintro k3 E h22 N23 D ⟨rfl, hk3, X, aw, nw, cw, hS, hL, xg, xm, hE⟩
          obtain ⟨E14, rfl⟩ := hE.ex
          refine c_seq ?_
          skip
          refine c_region (by kernel_rfl) ?_
          refine st_q (ok_lss rfl rfl ⟨rfl, rfl, rfl⟩) ?_
          refine o_nil ?_
          refine n_then ?_
          refine c_seq ?_
          refine c_cond_prop rfl (fun hc2 => ?_) (fun hc2 => ?_)
          · skip
            generalize hp : (rg q).ms.length - k3 = p at *
            have hpl : p < (grpOf n (rg q)).ms.length := by omega
            have hgp := List.getElem?_eq_getElem hpl
            have hgd : (grpOf n (rg q)).ms.getD p 0 = (grpOf n (rg q)).ms[p] := by rw [List.getD_eq_getElem?_getD, hgp]; rfl
            have hmm := List.mem_of_getElem? hgp
            generalize (grpOf n (rg q)).ms[p] = mm at *
            have hmn := gok.mb mm hmm
            have u0 := gok.m0 mm hmm
            have u1 := gok.m1 mm hmm
            have u2 := gok.m2 mm hmm
            have u3 := gok.m3 mm hmm
            have w0' := gok.b0
            have w1 := gok.b1
            have w2 := gok.b2
            have w3 := gok.b3
            have v0 : (rg q).a0 % n < n := Nat.mod_lt _ hn1
            have v1 : (rg q).b0 % n < n := Nat.mod_lt _ hn1
            have v2 : (rg q).a1 % n < n := Nat.mod_lt _ hn1
            have v3 : (rg q).b1 % n < n := Nat.mod_lt _ hn1
            have hlast3 : Value.int .i64 ((p : Int) + 1) = .int .i64 (((rg q).ms.length - (k3 - 1) : Nat) : Int) := by congr 1; omega
            have hnext3 : (rg q).ms.length - (k3 - 1) = p + 1 := by omega
            have hx22 := hS.oth
            refine c_skip ?_
            refine n_then ?_
            refine c_seq ?_
            refine c_block ?_
            refine c_seq ?_
            refine c_region (by kernel_rfl) ?_
            refine st_q (ok_move (v := .int _ _) rfl ⟨rfl, rfl, rfl⟩) ?_
            refine st_q (ok_indexAddr (sl rfl) (ty rfl) rfl rfl (by omega) (by omega) (off := p) (by omega) ⟨rfl, rfl, rfl⟩) ?_
            refine st_q (ok_load (ty rfl) rfl (hx22 _ _ xm) (hmcg p mm hgp) ⟨rfl, rfl, rfl⟩) ?_
            refine st_q (ok_assign (v := .int _ _) rfl ⟨rfl, rfl, rfl⟩) ?_
            refine st_q (ok_assign (v := .int _ _) rfl ⟨rfl, rfl, rfl⟩) ?_
            refine o_nil ?_
            refine n_then ?_
            refine c_seq ?_
            refine c_seq ?_
            refine c_cut (fun E h' N' D => D = [] ∧ h' = h22 ∧ N' = N23 ∧ Fr E [(337, .bool ((grpOf n (rg q)).skips mm)), (3, .slice (some ⟨bg0, og, none⟩) lg cg), (9, .pointer (some ⟨N, 0, none⟩)), (12, .int .i64 (n : Int)), (13, .pointer (some ⟨bp, 0, none⟩)), (14, .slice (some ⟨br, 0, none⟩) n n), (16, .bool false), (26, .slice aw nw cw), (28, .pointer (some ⟨bg0, og + q * 11, none⟩)), (29, .pointer (some ⟨N12, 0, none⟩)), (198, .int .i64 (lg : Int)), (199, .int .i64 (q : Int)), (35, .int .i64 (p : Int)), (36, .int .i64 (mm : Int)), (319, (.slice (some ⟨bm, 0, none⟩) (rg q).ms.length (rg q).ms.length)), (320, .int .i64 ((rg q).ms.length : Int)), (321, .int .i64 (p : Int))]) ?_ ?_
            · by_cases e0 : (mm : Int) = (grpOf n (rg q)).k0
              · skip
                refine c_region (by kernel_rfl) ?_
                refine st_q (ok_move (v := .int _ _) rfl ⟨rfl, rfl, rfl⟩) ?_
                refine st_q (ok_fieldAddr (fld rfl) rfl ⟨rfl, rfl, rfl⟩) ?_
                refine st_q (ok_indexAddrA (ar rfl) (ty rfl) rfl rfl (by omega) (by omega) (off := 10) (by omega) ⟨rfl, rfl, rfl⟩) ?_
                refine st_q (ok_load (ty rfl) rfl (hx22 _ _ xg) rfl ⟨rfl, rfl, rfl⟩) ?_
                refine st_q (ok_eql_t rfl rfl ((e0)) ⟨rfl, rfl, rfl⟩) ?_
                refine st_q (ok_move (v := .bool _) rfl ⟨rfl, rfl, rfl⟩) ?_
                refine st_s rfl ?_
                refine st_s rfl ?_
                refine st_s rfl ?_
                refine st_s rfl ?_
                refine st_s rfl ?_
                refine st_q (ok_pick_true rfl rfl ⟨rfl, rfl, rfl⟩) ?_
                refine o_nil ?_
                refine n_then ⟨rfl, rfl, rfl, ?_, rfl, rfl, rfl, rfl, rfl, rfl, rfl, rfl, rfl, rfl, rfl, rfl, rfl, rfl, rfl, rfl, trivial⟩
                show Value.bool true = _
                simp [Grp.skips, e0]
              · skip
                refine c_region (by kernel_rfl) ?_
                refine st_q (ok_move (v := .int _ _) rfl ⟨rfl, rfl, rfl⟩) ?_
                refine st_q (ok_fieldAddr (fld rfl) rfl ⟨rfl, rfl, rfl⟩) ?_
                refine st_q (ok_indexAddrA (ar rfl) (ty rfl) rfl rfl (by omega) (by omega) (off := 10) (by omega) ⟨rfl, rfl, rfl⟩) ?_
                refine st_q (ok_load (ty rfl) rfl (hx22 _ _ xg) rfl ⟨rfl, rfl, rfl⟩) ?_
                refine st_q (ok_eql_f rfl rfl ((e0)) ⟨rfl, rfl, rfl⟩) ?_
                refine st_q (ok_move (v := .bool _) rfl ⟨rfl, rfl, rfl⟩) ?_
                refine st_g rfl (ok_move (v := .int _ _) rfl ⟨rfl, rfl, rfl⟩) ?_
                refine st_g rfl (ok_fieldAddr (fld rfl) rfl ⟨rfl, rfl, rfl⟩) ?_
                refine st_g rfl (ok_indexAddrA (ar rfl) (ty rfl) rfl rfl (by omega) (by omega) (off := 11) (by omega) ⟨rfl, rfl, rfl⟩) ?_
                refine st_g rfl (ok_load (ty rfl) rfl (hx22 _ _ xg) rfl ⟨rfl, rfl, rfl⟩) ?_
                refine st_g rfl (ok_eql rfl rfl ⟨rfl, rfl, rfl⟩) ?_
                refine st_q (ok_pick_false rfl rfl ⟨rfl, rfl, rfl⟩) ?_
                refine o_nil ?_
                refine n_then ⟨rfl, rfl, rfl, ?_, rfl, rfl, rfl, rfl, rfl, rfl, rfl, rfl, rfl, rfl, rfl, rfl, rfl, rfl, rfl, rfl, trivial⟩
                show Value.bool (decide ((mm : Int) = (grpOf n (rg q)).k1)) = _
                simp [Grp.skips, e0]
            rintro E h23 N24 D ⟨rfl, rfl, rfl, hE⟩
            obtain ⟨E15, rfl⟩ := hE.ex
            refine n_then ?_
            have skipped : (grpOf n (rg q)).one G p = [] → LG h X N sp bp bn be br n V G (.slice (some ⟨b', 0, none⟩) n' c') (gl ++ [(grpOf n (rg q), bm)]) (.slice aw nw cw) (allTo GL G q ++ (grpOf n (rg q)).upto G ((rg q).ms.length - (k3 - 1))) := fun h1 => by
              rw [hnext3, upto_succ, h1, List.append_nil]; exact hL
            refine c_cond rfl (fun hc3 => ?_) (fun hc3 => ?_)
            · skip
              have h1 : (grpOf n (rg q)).one G p = [] := by unfold Grp.one; rw [hgd, hc3]; rfl
              refine c_exit ?_
              refine x_then (x_block (n_then ?_))
              refine c_region (by kernel_rfl) ?_
              refine st_q (ok_add rfl rfl (by omega) (by omega) ⟨rfl, rfl, rfl⟩) ?_
              refine st_q (ok_move (v := .int _ _) rfl ⟨rfl, rfl, rfl⟩) ?_
              refine o_nil ?_
              exact n_then ⟨k3 - 1, by omega, rfl, by omega, X, aw, nw, cw, hS, skipped h1, xg, xm, rfl, rfl, rfl, rfl, rfl, rfl, rfl, rfl, rfl, rfl, rfl, rfl, rfl, hlast3, trivial⟩
            · skip
              refine c_skip ?_
              refine n_then ?_
              refine c_seq ?_
              refine c_cut (fun E h' _ D => D = [] ∧ ∃ b37, Ext h23 h' ∧ h' b37 = some (.cells #[.int .i64 ((atN (grpOf n (rg q)).f0 (grpOf n (rg q)).x0 mm : Nat) : Int), .int .i64 ((atN (grpOf n (rg q)).f1 (grpOf n (rg q)).x1 mm : Nat) : Int)] 56 (0, 0)) ∧ Fr E [(37, .pointer (some ⟨b37, 0, none⟩)), (3, .slice (some ⟨bg0, og, none⟩) lg cg), (9, .pointer (some ⟨N, 0, none⟩)), (12, .int .i64 (n : Int)), (13, .pointer (some ⟨bp, 0, none⟩)), (14, .slice (some ⟨br, 0, none⟩) n n), (16, .bool false), (26, .slice aw nw cw), (28, .pointer (some ⟨bg0, og + q * 11, none⟩)), (29, .pointer (some ⟨N12, 0, none⟩)), (198, .int .i64 (lg : Int)), (199, .int .i64 (q : Int)), (35, .int .i64 (p : Int)), (36, .int .i64 (mm : Int)), (319, (.slice (some ⟨bm, 0, none⟩) (rg q).ms.length (rg q).ms.length)), (320, .int .i64 ((rg q).ms.length : Int)), (321, .int .i64 (p : Int))]) ?_ ?_
              · skip
                refine c_draw mixed [0, 0, 0, 0, 1, 0, 0, 0, 0, 1, 0, 1, 2] 13 rfl [((0, 2), [((1, 2), [((2, 1), [((3, 2), [((5, 2), [((6, 2), [((7, 1), [((8, 2), [((4, 0), [((9, 0), [((10, 2), [((11, 0), [((12, 0), ())])])]), ((11, 0), [((9, 0), [((10, 2), [((12, 0), ())])])])]), ((11, 0), [((4, 0), [((9, 0), [((10, 2), [((12, 0), ())])])])])])])])])])])])])] (by kernel_rfl) (by kernel_rfl) ?_
                refine w_p rfl (fun _ _ => ok_fieldAddr (fld rfl) rfl ⟨rfl, rfl, rfl⟩) ?_
                refine w_p rfl (fun _ _ => ok_indexAddrA (ar rfl) (ty rfl) rfl rfl (by omega) (by omega) (off := 0) (by omega) ⟨rfl, rfl, rfl⟩) ?_
                refine w_r rfl (fun _ _ hExt => ok_loadAgg (ty rfl) rfl (hExt _ _ (hx22 _ _ xg)) (Nat.le_of_ble_eq_true rfl) rfl ⟨rfl, rfl, rfl⟩) ?_
                refine w_p rfl (fun _ _ => ok_move (v := .int _ _) rfl ⟨rfl, rfl, rfl⟩) ?_
                refine w_p rfl (fun _ _ => ok_fieldAddr (fld rfl) rfl ⟨rfl, rfl, rfl⟩) ?_
                refine w_p rfl (fun _ _ => ok_indexAddrA (ar rfl) (ty rfl) rfl rfl (by omega) (by omega) (off := 2) (by omega) ⟨rfl, rfl, rfl⟩) ?_
                refine w_r rfl (fun _ _ hExt => ok_loadAgg (ty rfl) rfl (hExt _ _ (hx22 _ _ xg)) (Nat.le_of_ble_eq_true rfl) rfl ⟨rfl, rfl, rfl⟩) ?_
                refine w_p rfl (fun _ _ => ok_move (v := .int _ _) rfl ⟨rfl, rfl, rfl⟩) ?_
                refine w_cons ?_ (w_cons ?_ (w_none))
                · skip
                  refine w_e rfl (ok_call rfl ent6 (zzat_ok (by omega) (by omega)) rfl ?_)
                  rintro _ h2 N2 ⟨rfl, rfl, rfl, hN342⟩
                  refine ⟨.inr ⟨_, rfl, rfl⟩, ?_⟩
                  refine w_cons ?_ (w_cons ?_ (w_none))
                  · skip
                    refine w_e rfl (ok_call rfl ent6 (zzat_ok (by omega) (by omega)) rfl ?_)
                    rintro _ h2 N2 ⟨rfl, rfl, rfl, hN347⟩
                    refine ⟨.inr ⟨_, rfl, rfl⟩, ?_⟩
                    refine w_p rfl (fun _ _ => ok_build rfl (v := .agg #[.int .i64 ((atN (grpOf n (rg q)).f0 (grpOf n (rg q)).x0 mm : Nat) : Int), .int .i64 ((atN (grpOf n (rg q)).f1 (grpOf n (rg q)).x1 mm : Nat) : Int)]) (fun _ => by kernel_rfl) ⟨rfl, rfl, rfl⟩) ?_
                    refine w_e rfl (ok_alloc (ty rfl) rfl (fun hN37 => ⟨.inr ⟨_, rfl, rfl⟩, ?_⟩))
                    refine w_e0 rfl (ok_storeL (ty rfl) rfl (v := .agg _) rfl rfl rfl rfl (by (repeat rw [hset_ne _ _ (by omega)]); exact hset_same _ _ _) (Nat.le_of_ble_eq_true rfl) ⟨trivial, ?_⟩)
                    refine w_nil ?_
                    have hf : ∀ b, N24 ≤ b → h23 b = none := (by first | exact hN342 | exact hN37); exact n_then ⟨rfl, N24 + 1 + 1, ((((Ext.refl h23).fresh (hf _ (by omega)) _).fresh (hf _ (by omega)) _).fresh (hf _ (by omega)) _).fresh (hf _ (by omega)) _, hset_same _ _ _, rfl, rfl, rfl, rfl, rfl, rfl, rfl, rfl, rfl, rfl, rfl, rfl, rfl, rfl, rfl, rfl, rfl, trivial⟩
                  · skip
                    refine w_e rfl (ok_alloc (ty rfl) rfl (fun hN37 => ⟨.inr ⟨_, rfl, rfl⟩, ?_⟩))
                    refine w_e rfl (ok_call rfl ent6 (zzat_ok (by omega) (by omega)) rfl ?_)
                    rintro _ h2 N2 ⟨rfl, rfl, rfl, hN347⟩
                    refine ⟨.inr ⟨_, rfl, rfl⟩, ?_⟩
                    refine w_p rfl (fun _ _ => ok_build rfl (v := .agg #[.int .i64 ((atN (grpOf n (rg q)).f0 (grpOf n (rg q)).x0 mm : Nat) : Int), .int .i64 ((atN (grpOf n (rg q)).f1 (grpOf n (rg q)).x1 mm : Nat) : Int)]) (fun _ => by kernel_rfl) ⟨rfl, rfl, rfl⟩) ?_
                    refine w_e0 rfl (ok_storeL (ty rfl) rfl (v := .agg _) rfl rfl rfl rfl (by (repeat rw [hset_ne _ _ (by omega)]); exact hset_same _ _ _) (Nat.le_of_ble_eq_true rfl) ⟨trivial, ?_⟩)
                    refine w_nil ?_
                    have hf : ∀ b, N24 ≤ b → h23 b = none := (by first | exact hN342 | exact hN37); exact n_then ⟨rfl, N24 + 1, ((((Ext.refl h23).fresh (hf _ (by omega)) _).fresh (hf _ (by omega)) _).fresh (hf _ (by omega)) _).fresh (hf _ (by omega)) _, hset_same _ _ _, rfl, rfl, rfl, rfl, rfl, rfl, rfl, rfl, rfl, rfl, rfl, rfl, rfl, rfl, rfl, rfl, rfl, trivial⟩
                · skip
                  refine w_e rfl (ok_alloc (ty rfl) rfl (fun hN37 => ⟨.inr ⟨_, rfl, rfl⟩, ?_⟩))
                  refine w_e rfl (ok_call rfl ent6 (zzat_ok (by omega) (by omega)) rfl ?_)
                  rintro _ h2 N2 ⟨rfl, rfl, rfl, hN342⟩
                  refine ⟨.inr ⟨_, rfl, rfl⟩, ?_⟩
                  refine w_e rfl (ok_call rfl ent6 (zzat_ok (by omega) (by omega)) rfl ?_)
                  rintro _ h2 N2 ⟨rfl, rfl, rfl, hN347⟩
                  refine ⟨.inr ⟨_, rfl, rfl⟩, ?_⟩
                  refine w_p rfl (fun _ _ => ok_build rfl (v := .agg #[.int .i64 ((atN (grpOf n (rg q)).f0 (grpOf n (rg q)).x0 mm : Nat) : Int), .int .i64 ((atN (grpOf n (rg q)).f1 (grpOf n (rg q)).x1 mm : Nat) : Int)]) (fun _ => by kernel_rfl) ⟨rfl, rfl, rfl⟩) ?_
                  refine w_e0 rfl (ok_storeL (ty rfl) rfl (v := .agg _) rfl rfl rfl rfl (by (repeat rw [hset_ne _ _ (by omega)]); exact hset_same _ _ _) (Nat.le_of_ble_eq_true rfl) ⟨trivial, ?_⟩)
                  refine w_nil ?_
                  have hf : ∀ b, N24 ≤ b → h23 b = none := (by first | exact hN342 | exact hN37); exact n_then ⟨rfl, N24, ((((Ext.refl h23).fresh (hf _ (by omega)) _).fresh (hf _ (by omega)) _).fresh (hf _ (by omega)) _).fresh (hf _ (by omega)) _, hset_same _ _ _, rfl, rfl, rfl, rfl, rfl, rfl, rfl, rfl, rfl, rfl, rfl, rfl, rfl, rfl, rfl, rfl, rfl, trivial⟩
              rintro E h24 N25 D ⟨rfl, b37, hx24, g37, hE⟩
              obtain ⟨E16, rfl⟩ := hE.ex
              have xg24 := hx24 _ _ (hx22 _ _ xg)
              refine n_then ?_
              refine c_seq ?_
              refine c_cut (fun E h' _ D => D = [] ∧ ∃ b38, Ext h24 h' ∧ h' b38 = some (.cells #[.int .i64 ((atN (grpOf n (rg q)).e0 (grpOf n (rg q)).y0 mm : Nat) : Int), .int .i64 ((atN (grpOf n (rg q)).e1 (grpOf n (rg q)).y1 mm : Nat) : Int)] 56 (0, 0)) ∧ Fr E [(37, .pointer (some ⟨b37, 0, none⟩)), (38, .pointer (some ⟨b38, 0, none⟩)), (3, .slice (some ⟨bg0, og, none⟩) lg cg), (9, .pointer (some ⟨N, 0, none⟩)), (12, .int .i64 (n : Int)), (13, .pointer (some ⟨bp, 0, none⟩)), (14, .slice (some ⟨br, 0, none⟩) n n), (16, .bool false), (26, .slice aw nw cw), (28, .pointer (some ⟨bg0, og + q * 11, none⟩)), (29, .pointer (some ⟨N12, 0, none⟩)), (198, .int .i64 (lg : Int)), (199, .int .i64 (q : Int)), (35, .int .i64 (p : Int)), (36, .int .i64 (mm : Int)), (319, (.slice (some ⟨bm, 0, none⟩) (rg q).ms.length (rg q).ms.length)), (320, .int .i64 ((rg q).ms.length : Int)), (321, .int .i64 (p : Int))]) ?_ ?_
              · skip
                refine c_draw mixed [0, 0, 0, 0, 1, 0, 0, 0, 0, 1, 0, 1, 2] 13 rfl [((0, 2), [((1, 2), [((2, 1), [((3, 2), [((5, 2), [((6, 2), [((7, 1), [((8, 2), [((4, 0), [((9, 0), [((10, 2), [((11, 0), [((12, 0), ())])])]), ((11, 0), [((9, 0), [((10, 2), [((12, 0), ())])])])]), ((11, 0), [((4, 0), [((9, 0), [((10, 2), [((12, 0), ())])])])])])])])])])])])])] (by kernel_rfl) (by kernel_rfl) ?_
                refine w_p rfl (fun _ _ => ok_fieldAddr (fld rfl) rfl ⟨rfl, rfl, rfl⟩) ?_
                refine w_p rfl (fun _ _ => ok_indexAddrA (ar rfl) (ty rfl) rfl rfl (by omega) (by omega) (off := 4) (by omega) ⟨rfl, rfl, rfl⟩) ?_
                refine w_r rfl (fun _ _ hExt => ok_loadAgg (ty rfl) rfl (hExt _ _ xg24) (Nat.le_of_ble_eq_true rfl) rfl ⟨rfl, rfl, rfl⟩) ?_
                refine w_p rfl (fun _ _ => ok_move (v := .int _ _) rfl ⟨rfl, rfl, rfl⟩) ?_
                refine w_p rfl (fun _ _ => ok_fieldAddr (fld rfl) rfl ⟨rfl, rfl, rfl⟩) ?_
                refine w_p rfl (fun _ _ => ok_indexAddrA (ar rfl) (ty rfl) rfl rfl (by omega) (by omega) (off := 6) (by omega) ⟨rfl, rfl, rfl⟩) ?_
                refine w_r rfl (fun _ _ hExt => ok_loadAgg (ty rfl) rfl (hExt _ _ xg24) (Nat.le_of_ble_eq_true rfl) rfl ⟨rfl, rfl, rfl⟩) ?_
                refine w_p rfl (fun _ _ => ok_move (v := .int _ _) rfl ⟨rfl, rfl, rfl⟩) ?_
                refine w_cons ?_ (w_cons ?_ (w_none))
                · skip
                  refine w_e rfl (ok_call rfl ent6 (zzat_ok (by omega) (by omega)) rfl ?_)
                  rintro _ h2 N2 ⟨rfl, rfl, rfl, hN353⟩
                  refine ⟨.inr ⟨_, rfl, rfl⟩, ?_⟩
                  refine w_cons ?_ (w_cons ?_ (w_none))
                  · skip
                    refine w_e rfl (ok_call rfl ent6 (zzat_ok (by omega) (by omega)) rfl ?_)
                    rintro _ h2 N2 ⟨rfl, rfl, rfl, hN358⟩
                    refine ⟨.inr ⟨_, rfl, rfl⟩, ?_⟩
                    refine w_p rfl (fun _ _ => ok_build rfl (v := .agg #[.int .i64 ((atN (grpOf n (rg q)).e0 (grpOf n (rg q)).y0 mm : Nat) : Int), .int .i64 ((atN (grpOf n (rg q)).e1 (grpOf n (rg q)).y1 mm : Nat) : Int)]) (fun _ => by kernel_rfl) ⟨rfl, rfl, rfl⟩) ?_
                    refine w_e rfl (ok_alloc (ty rfl) rfl (fun hN38 => ⟨.inr ⟨_, rfl, rfl⟩, ?_⟩))
                    refine w_e0 rfl (ok_storeL (ty rfl) rfl (v := .agg _) rfl rfl rfl rfl (by (repeat rw [hset_ne _ _ (by omega)]); exact hset_same _ _ _) (Nat.le_of_ble_eq_true rfl) ⟨trivial, ?_⟩)
                    refine w_nil ?_
                    have hf : ∀ b, N25 ≤ b → h24 b = none := (by first | exact hN353 | exact hN38); exact n_then ⟨rfl, N25 + 1 + 1, ((((Ext.refl h24).fresh (hf _ (by omega)) _).fresh (hf _ (by omega)) _).fresh (hf _ (by omega)) _).fresh (hf _ (by omega)) _, hset_same _ _ _, rfl, rfl, rfl, rfl, rfl, rfl, rfl, rfl, rfl, rfl, rfl, rfl, rfl, rfl, rfl, rfl, rfl, rfl, trivial⟩
                  · skip
                    refine w_e rfl (ok_alloc (ty rfl) rfl (fun hN38 => ⟨.inr ⟨_, rfl, rfl⟩, ?_⟩))
                    refine w_e rfl (ok_call rfl ent6 (zzat_ok (by omega) (by omega)) rfl ?_)
                    rintro _ h2 N2 ⟨rfl, rfl, rfl, hN358⟩
                    refine ⟨.inr ⟨_, rfl, rfl⟩, ?_⟩
                    refine w_p rfl (fun _ _ => ok_build rfl (v := .agg #[.int .i64 ((atN (grpOf n (rg q)).e0 (grpOf n (rg q)).y0 mm : Nat) : Int), .int .i64 ((atN (grpOf n (rg q)).e1 (grpOf n (rg q)).y1 mm : Nat) : Int)]) (fun _ => by kernel_rfl) ⟨rfl, rfl, rfl⟩) ?_
                    refine w_e0 rfl (ok_storeL (ty rfl) rfl (v := .agg _) rfl rfl rfl rfl (by (repeat rw [hset_ne _ _ (by omega)]); exact hset_same _ _ _) (Nat.le_of_ble_eq_true rfl) ⟨trivial, ?_⟩)
                    refine w_nil ?_
                    have hf : ∀ b, N25 ≤ b → h24 b = none := (by first | exact hN353 | exact hN38); exact n_then ⟨rfl, N25 + 1, ((((Ext.refl h24).fresh (hf _ (by omega)) _).fresh (hf _ (by omega)) _).fresh (hf _ (by omega)) _).fresh (hf _ (by omega)) _, hset_same _ _ _, rfl, rfl, rfl, rfl, rfl, rfl, rfl, rfl, rfl, rfl, rfl, rfl, rfl, rfl, rfl, rfl, rfl, rfl, trivial⟩
                · skip
                  refine w_e rfl (ok_alloc (ty rfl) rfl (fun hN38 => ⟨.inr ⟨_, rfl, rfl⟩, ?_⟩))
                  refine w_e rfl (ok_call rfl ent6 (zzat_ok (by omega) (by omega)) rfl ?_)
                  rintro _ h2 N2 ⟨rfl, rfl, rfl, hN353⟩
                  refine ⟨.inr ⟨_, rfl, rfl⟩, ?_⟩
                  refine w_e rfl (ok_call rfl ent6 (zzat_ok (by omega) (by omega)) rfl ?_)
                  rintro _ h2 N2 ⟨rfl, rfl, rfl, hN358⟩
                  refine ⟨.inr ⟨_, rfl, rfl⟩, ?_⟩
                  refine w_p rfl (fun _ _ => ok_build rfl (v := .agg #[.int .i64 ((atN (grpOf n (rg q)).e0 (grpOf n (rg q)).y0 mm : Nat) : Int), .int .i64 ((atN (grpOf n (rg q)).e1 (grpOf n (rg q)).y1 mm : Nat) : Int)]) (fun _ => by kernel_rfl) ⟨rfl, rfl, rfl⟩) ?_
                  refine w_e0 rfl (ok_storeL (ty rfl) rfl (v := .agg _) rfl rfl rfl rfl (by (repeat rw [hset_ne _ _ (by omega)]); exact hset_same _ _ _) (Nat.le_of_ble_eq_true rfl) ⟨trivial, ?_⟩)
                  refine w_nil ?_
                  have hf : ∀ b, N25 ≤ b → h24 b = none := (by first | exact hN353 | exact hN38); exact n_then ⟨rfl, N25, ((((Ext.refl h24).fresh (hf _ (by omega)) _).fresh (hf _ (by omega)) _).fresh (hf _ (by omega)) _).fresh (hf _ (by omega)) _, hset_same _ _ _, rfl, rfl, rfl, rfl, rfl, rfl, rfl, rfl, rfl, rfl, rfl, rfl, rfl, rfl, rfl, rfl, rfl, rfl, trivial⟩
              rintro E h25 N26 D ⟨rfl, b38, hx25, g38, hE⟩
              obtain ⟨E17, rfl⟩ := hE.ex
              have hxx := hx24.trans hx25
              have hS := hS.ext hxx
              have g37 := hx25 _ _ g37
              have xg25 := hx25 _ _ xg24
              clear hx24 hx25 hxx xg24 hx22
              obtain ⟨vs, t1, t2, t3⟩ := hL.bm.top
              obtain ⟨ca, ca1, ca2, ca3⟩ := hL.bm.row _ u0
              obtain ⟨cb, cb1, cb2, cb3⟩ := hL.bm.row _ u2
              refine n_then ?_
              refine c_seq ?_
              refine c_seq ?_
              refine c_cut (fun E h' N' D => D = [] ∧ h' = h25 ∧ N' = N26 ∧ Fr E [(379, .bool ((grpOf n (rg q)).holds G mm)), (37, .pointer (some ⟨b37, 0, none⟩)), (38, .pointer (some ⟨b38, 0, none⟩)), (3, .slice (some ⟨bg0, og, none⟩) lg cg), (9, .pointer (some ⟨N, 0, none⟩)), (12, .int .i64 (n : Int)), (13, .pointer (some ⟨bp, 0, none⟩)), (14, .slice (some ⟨br, 0, none⟩) n n), (16, .bool false), (26, .slice aw nw cw), (28, .pointer (some ⟨bg0, og + q * 11, none⟩)), (29, .pointer (some ⟨N12, 0, none⟩)), (198, .int .i64 (lg : Int)), (199, .int .i64 (q : Int)), (35, .int .i64 (p : Int)), (36, .int .i64 (mm : Int)), (319, (.slice (some ⟨bm, 0, none⟩) (rg q).ms.length (rg q).ms.length)), (320, .int .i64 ((rg q).ms.length : Int)), (321, .int .i64 (p : Int))]) ?_ ?_
              · cases hGa : G (atN (grpOf n (rg q)).f0 (grpOf n (rg q)).x0 mm) (atN (grpOf n (rg q)).f1 (grpOf n (rg q)).x1 mm) with
                | true =>
                  have hv := ca3 _ u1
                  rw [hGa] at hv
                  skip
                  refine c_draw mixed [] 20 rfl [((0, 2), [((1, 2), [((2, 1), [((3, 2), [((4, 1), [((5, 2), [((6, 1), [((7, 2), [((8, 1), [((9, 2), [((10, 2), [((11, 2), [((12, 1), [((13, 2), [((14, 1), [((15, 2), [((16, 1), [((17, 2), [((18, 1), [((19, 2), ())])])])])])])])])])])])])])])])])])])])] (by kernel_rfl) (by kernel_rfl) ?_
                  refine w_p rfl (fun _ _ => ok_move (v := .slice _ _ _) rfl ⟨rfl, rfl, rfl⟩) ?_
                  refine w_p rfl (fun _ _ => ok_fieldAddr (fld rfl) rfl ⟨rfl, rfl, rfl⟩) ?_
                  refine w_r rfl (fun _ _ hExt => ok_load (ty rfl) rfl (hExt _ _ g37) rfl ⟨rfl, rfl, rfl⟩) ?_
                  refine w_p rfl (fun _ _ => ok_indexAddr (sl rfl) (ty rfl) rfl rfl (by omega) (by omega) (off := (atN (grpOf n (rg q)).f0 (grpOf n (rg q)).x0 mm)) (by omega) ⟨rfl, rfl, rfl⟩) ?_
                  refine w_r rfl (fun _ _ hExt => ok_load (ty rfl) rfl (hExt _ _ (hS.oth _ _ t1)) (t3 _ u0) ⟨rfl, rfl, rfl⟩) ?_
                  refine w_p rfl (fun _ _ => ok_fieldAddr (fld rfl) rfl ⟨rfl, rfl, rfl⟩) ?_
                  refine w_r rfl (fun _ _ hExt => ok_load (ty rfl) rfl (hExt _ _ g37) rfl ⟨rfl, rfl, rfl⟩) ?_
                  refine w_p rfl (fun _ _ => ok_indexAddr (sl rfl) (ty rfl) rfl rfl (by omega) (by omega) (off := (atN (grpOf n (rg q)).f1 (grpOf n (rg q)).x1 mm)) (by omega) ⟨rfl, rfl, rfl⟩) ?_
                  refine w_r rfl (fun _ _ hExt => ok_load (ty rfl) rfl (hExt _ _ (hS.oth _ _ ca1)) hv ⟨rfl, rfl, rfl⟩) ?_
                  refine w_p rfl (fun _ _ => ok_move (v := .bool _) rfl ⟨rfl, rfl, rfl⟩) ?_
                  refine w_s rfl rfl (by decide) ?_
                  refine w_s rfl rfl (by decide) ?_
                  refine w_s rfl rfl (by decide) ?_
                  refine w_s rfl rfl (by decide) ?_
                  refine w_s rfl rfl (by decide) ?_
                  refine w_s rfl rfl (by decide) ?_
                  refine w_s rfl rfl (by decide) ?_
                  refine w_s rfl rfl (by decide) ?_
                  refine w_s rfl rfl (by decide) ?_
                  refine w_p rfl (fun _ _ => ok_pick_true rfl rfl ⟨rfl, rfl, rfl⟩) ?_
                  refine w_nil ?_
                  refine n_then ⟨rfl, rfl, rfl, ?_, rfl, rfl, rfl, rfl, rfl, rfl, rfl, rfl, rfl, rfl, rfl, rfl, rfl, rfl, rfl, rfl, rfl, rfl, trivial⟩
                  show Value.bool true = _
                  rw [Grp.holds, hGa]; rfl
                | false =>
                  have hv := ca3 _ u1
                  rw [hGa] at hv
                  skip
                  refine c_draw mixed [] 20 rfl [((0, 2), [((1, 2), [((2, 1), [((3, 2), [((4, 1), [((5, 2), [((6, 1), [((7, 2), [((8, 1), [((9, 2), [((10, 2), [((11, 2), [((12, 1), [((13, 2), [((14, 1), [((15, 2), [((16, 1), [((17, 2), [((18, 1), [((19, 2), ())])])])])])])])])])])])])])])])])])])])] (by kernel_rfl) (by kernel_rfl) ?_
                  refine w_p rfl (fun _ _ => ok_move (v := .slice _ _ _) rfl ⟨rfl, rfl, rfl⟩) ?_
                  refine w_p rfl (fun _ _ => ok_fieldAddr (fld rfl) rfl ⟨rfl, rfl, rfl⟩) ?_
                  refine w_r rfl (fun _ _ hExt => ok_load (ty rfl) rfl (hExt _ _ g37) rfl ⟨rfl, rfl, rfl⟩) ?_
                  refine w_p rfl (fun _ _ => ok_indexAddr (sl rfl) (ty rfl) rfl rfl (by omega) (by omega) (off := (atN (grpOf n (rg q)).f0 (grpOf n (rg q)).x0 mm)) (by omega) ⟨rfl, rfl, rfl⟩) ?_
                  refine w_r rfl (fun _ _ hExt => ok_load (ty rfl) rfl (hExt _ _ (hS.oth _ _ t1)) (t3 _ u0) ⟨rfl, rfl, rfl⟩) ?_
                  refine w_p rfl (fun _ _ => ok_fieldAddr (fld rfl) rfl ⟨rfl, rfl, rfl⟩) ?_
                  refine w_r rfl (fun _ _ hExt => ok_load (ty rfl) rfl (hExt _ _ g37) rfl ⟨rfl, rfl, rfl⟩) ?_
                  refine w_p rfl (fun _ _ => ok_indexAddr (sl rfl) (ty rfl) rfl rfl (by omega) (by omega) (off := (atN (grpOf n (rg q)).f1 (grpOf n (rg q)).x1 mm)) (by omega) ⟨rfl, rfl, rfl⟩) ?_
                  refine w_r rfl (fun _ _ hExt => ok_load (ty rfl) rfl (hExt _ _ (hS.oth _ _ ca1)) hv ⟨rfl, rfl, rfl⟩) ?_
                  refine w_p rfl (fun _ _ => ok_move (v := .bool _) rfl ⟨rfl, rfl, rfl⟩) ?_
                  refine w_pg rfl rfl (fun _ _ => ok_move (v := .slice _ _ _) rfl ⟨rfl, rfl, rfl⟩) ?_
                  refine w_pg rfl rfl (fun _ _ => ok_fieldAddr (fld rfl) rfl ⟨rfl, rfl, rfl⟩) ?_
                  refine w_rg rfl rfl (fun _ _ hExt => ok_load (ty rfl) rfl (hExt _ _ g38) rfl ⟨rfl, rfl, rfl⟩) ?_
                  refine w_pg rfl rfl (fun _ _ => ok_indexAddr (sl rfl) (ty rfl) rfl rfl (by omega) (by omega) (off := (atN (grpOf n (rg q)).e0 (grpOf n (rg q)).y0 mm)) (by omega) ⟨rfl, rfl, rfl⟩) ?_
                  refine w_rg rfl rfl (fun _ _ hExt => ok_load (ty rfl) rfl (hExt _ _ (hS.oth _ _ t1)) (t3 _ u2) ⟨rfl, rfl, rfl⟩) ?_
                  refine w_pg rfl rfl (fun _ _ => ok_fieldAddr (fld rfl) rfl ⟨rfl, rfl, rfl⟩) ?_
                  refine w_rg rfl rfl (fun _ _ hExt => ok_load (ty rfl) rfl (hExt _ _ g38) rfl ⟨rfl, rfl, rfl⟩) ?_
                  refine w_pg rfl rfl (fun _ _ => ok_indexAddr (sl rfl) (ty rfl) rfl rfl (by omega) (by omega) (off := (atN (grpOf n (rg q)).e1 (grpOf n (rg q)).y1 mm)) (by omega) ⟨rfl, rfl, rfl⟩) ?_
                  refine w_rg rfl rfl (fun _ _ hExt => ok_load (ty rfl) rfl (hExt _ _ (hS.oth _ _ cb1)) (cb3 _ u3) ⟨rfl, rfl, rfl⟩) ?_
                  refine w_p rfl (fun _ _ => ok_pick_false rfl rfl ⟨rfl, rfl, rfl⟩) ?_
                  refine w_nil ?_
                  refine n_then ⟨rfl, rfl, rfl, ?_, rfl, rfl, rfl, rfl, rfl, rfl, rfl, rfl, rfl, rfl, rfl, rfl, rfl, rfl, rfl, rfl, rfl, rfl, trivial⟩
                  show Value.bool (G (atN (grpOf n (rg q)).e0 (grpOf n (rg q)).y0 mm) (atN (grpOf n (rg q)).e1 (grpOf n (rg q)).y1 mm)) = _
                  rw [Grp.holds, hGa]; rfl
              rintro E h26 N27 D ⟨rfl, rfl, rfl, hE⟩
              obtain ⟨E18, rfl⟩ := hE.ex
              refine n_then ?_
              refine c_cond rfl (fun hc4 => ?_) (fun hc4 => ?_)
              · skip
                have h1 : (grpOf n (rg q)).one G p = [] := by unfold Grp.one; rw [hgd, hc3, hc4]; rfl
                refine c_exit ?_
                refine x_then (x_block (n_then ?_))
                refine c_region (by kernel_rfl) ?_
                refine st_q (ok_add rfl rfl (by omega) (by omega) ⟨rfl, rfl, rfl⟩) ?_
                refine st_q (ok_move (v := .int _ _) rfl ⟨rfl, rfl, rfl⟩) ?_
                refine o_nil ?_
                exact n_then ⟨k3 - 1, by omega, rfl, by omega, X, aw, nw, cw, hS, skipped h1, xg, xm, rfl, rfl, rfl, rfl, rfl, rfl, rfl, rfl, rfl, rfl, rfl, rfl, rfl, hlast3, trivial⟩
              · skip
                have h1 : (grpOf n (rg q)).one G p = [(grpOf n (rg q)).rc p mm] := by unfold Grp.one; rw [hgd, hc3, hc4]; rfl
                refine c_skip ?_
                refine n_then ?_
                refine c_seq ?_
                refine c_region (by kernel_rfl) ?_
                refine st_q (ok_loadAgg (ty rfl) rfl g37 (Nat.le_of_ble_eq_true rfl) rfl ⟨rfl, rfl, rfl⟩) ?_
                refine st_q (ok_loadAgg (ty rfl) rfl g38 (Nat.le_of_ble_eq_true rfl) rfl ⟨rfl, rfl, rfl⟩) ?_
                refine st_q (ok_build rfl (v := .agg #[.int .i64 ((atN (grpOf n (rg q)).f0 (grpOf n (rg q)).x0 mm : Nat) : Int), .int .i64 ((atN (grpOf n (rg q)).f1 (grpOf n (rg q)).x1 mm : Nat) : Int), .int .i64 ((atN (grpOf n (rg q)).e0 (grpOf n (rg q)).y0 mm : Nat) : Int), .int .i64 ((atN (grpOf n (rg q)).e1 (grpOf n (rg q)).y1 mm : Nat) : Int)]) (fun _ => by kernel_rfl) ⟨rfl, rfl, rfl⟩) ?_
                refine st (ok_alloc (ty rfl) rfl (fun hN39 => ?_))
                refine st0 (ok_storeL (ty rfl) rfl (v := .agg _) rfl rfl rfl rfl (hset_same _ _ _) (Nat.le_of_ble_eq_true rfl) ?_)
                refine o_nil ?_
                have hf39 := hN39
                have n39 : h26 N27 = none := hN39 _ (Nat.le_refl _)
                refine n_then ?_
                refine c_heap (fun h' _ => Ext h26 h' ∧ h' N27 = some (.cells #[.int .i64 ((atN (grpOf n (rg q)).f0 (grpOf n (rg q)).x0 mm : Nat) : Int), .int .i64 ((atN (grpOf n (rg q)).f1 (grpOf n (rg q)).x1 mm : Nat) : Int), .int .i64 ((atN (grpOf n (rg q)).e0 (grpOf n (rg q)).y0 mm : Nat) : Int), .int .i64 ((atN (grpOf n (rg q)).e1 (grpOf n (rg q)).y1 mm : Nat) : Int)] 58 (0, 0))) ⟨((Ext.refl h26).fresh n39 _).fresh n39 _, hset_same _ _ _⟩ ?_
                clear hN39 hf39
                rintro h27 N28 ⟨hx27, g39⟩
                refine c_seq ?_
                refine c_cut (fun E h' _ D => D = [] ∧ Ext h26 h' ∧ h' N27 = some (.cells (chc (grpOf n (rg q)).keep p (atN (grpOf n (rg q)).f0 (grpOf n (rg q)).x0 mm) (atN (grpOf n (rg q)).f1 (grpOf n (rg q)).x1 mm) (atN (grpOf n (rg q)).e0 (grpOf n (rg q)).y0 mm) (atN (grpOf n (rg q)).e1 (grpOf n (rg q)).y1 mm)) 58 (0, 0)) ∧ Fr E [(39, .pointer (some ⟨N27, 0, none⟩)), (3, .slice (some ⟨bg0, og, none⟩) lg cg), (9, .pointer (some ⟨N, 0, none⟩)), (12, .int .i64 (n : Int)), (13, .pointer (some ⟨bp, 0, none⟩)), (14, .slice (some ⟨br, 0, none⟩) n n), (16, .bool false), (26, .slice aw nw cw), (28, .pointer (some ⟨bg0, og + q * 11, none⟩)), (29, .pointer (some ⟨N12, 0, none⟩)), (198, .int .i64 (lg : Int)), (199, .int .i64 (q : Int)), (35, .int .i64 (p : Int)), (36, .int .i64 (mm : Int)), (319, (.slice (some ⟨bm, 0, none⟩) (rg q).ms.length (rg q).ms.length)), (320, .int .i64 ((rg q).ms.length : Int)), (321, .int .i64 (p : Int))]) ?_ ?_
                · skip
                  refine c_seq ?_
                  refine c_region (by kernel_rfl) ?_
                  refine st_q (ok_move (v := .int _ _) rfl ⟨rfl, rfl, rfl⟩) ?_
                  refine st_q (ok_fieldAddr (fld rfl) rfl ⟨rfl, rfl, rfl⟩) ?_
                  refine st_q (ok_load (ty rfl) rfl (hx27 _ _ xg25) rfl ⟨rfl, rfl, rfl⟩) ?_
                  refine st_q (ok_geq rfl rfl ⟨rfl, rfl, rfl⟩) ?_
                  refine o_nil ?_
                  refine n_then ?_
                  refine c_cond_prop rfl (fun hc5 => ?_) (fun hc5 => ?_)
                  · skip
                    have hkp : (grpOf n (rg q)).keep ≤ (p : Int) := hc5
                    refine c_region (by kernel_rfl) ?_
                    refine st_q (ok_loadAgg (ty rfl) rfl (hx27 _ _ g38) (Nat.le_of_ble_eq_true rfl) rfl ⟨rfl, rfl, rfl⟩) ?_
                    refine st_q (ok_loadAgg (ty rfl) rfl (hx27 _ _ g37) (Nat.le_of_ble_eq_true rfl) rfl ⟨rfl, rfl, rfl⟩) ?_
                    refine st_q (ok_build rfl (v := .agg #[.int .i64 ((atN (grpOf n (rg q)).e0 (grpOf n (rg q)).y0 mm : Nat) : Int), .int .i64 ((atN (grpOf n (rg q)).e1 (grpOf n (rg q)).y1 mm : Nat) : Int), .int .i64 ((atN (grpOf n (rg q)).f0 (grpOf n (rg q)).x0 mm : Nat) : Int), .int .i64 ((atN (grpOf n (rg q)).f1 (grpOf n (rg q)).x1 mm : Nat) : Int)]) (fun _ => by kernel_rfl) ⟨rfl, rfl, rfl⟩) ?_
                    refine st0 (ok_storeL (ty rfl) rfl (v := .agg _) rfl rfl rfl rfl g39 (Nat.le_of_ble_eq_true rfl) ?_)
                    refine o_nil ?_
                    refine n_then ⟨rfl, hx27.fresh n39 _, ?_, rfl, rfl, rfl, rfl, rfl, rfl, rfl, rfl, rfl, rfl, rfl, rfl, rfl, rfl, rfl, rfl, rfl, trivial⟩
                    rw [show (chc (grpOf n (rg q)).keep p (atN (grpOf n (rg q)).f0 (grpOf n (rg q)).x0 mm) (atN (grpOf n (rg q)).f1 (grpOf n (rg q)).x1 mm) (atN (grpOf n (rg q)).e0 (grpOf n (rg q)).y0 mm) (atN (grpOf n (rg q)).e1 (grpOf n (rg q)).y1 mm)) = #[.int .i64 ((atN (grpOf n (rg q)).e0 (grpOf n (rg q)).y0 mm : Nat) : Int), .int .i64 ((atN (grpOf n (rg q)).e1 (grpOf n (rg q)).y1 mm : Nat) : Int), .int .i64 ((atN (grpOf n (rg q)).f0 (grpOf n (rg q)).x0 mm : Nat) : Int), .int .i64 ((atN (grpOf n (rg q)).f1 (grpOf n (rg q)).x1 mm : Nat) : Int)] from by simp [chc, sw, hkp]]
                    exact hset_same _ _ _
                  · skip
                    have hkp : ¬ (grpOf n (rg q)).keep ≤ (p : Int) := hc5
                    refine c_skip ?_
                    refine n_then ⟨rfl, hx27, ?_, rfl, rfl, rfl, rfl, rfl, rfl, rfl, rfl, rfl, rfl, rfl, rfl, rfl, rfl, rfl, rfl, rfl, trivial⟩
                    rw [show (chc (grpOf n (rg q)).keep p (atN (grpOf n (rg q)).f0 (grpOf n (rg q)).x0 mm) (atN (grpOf n (rg q)).f1 (grpOf n (rg q)).x1 mm) (atN (grpOf n (rg q)).e0 (grpOf n (rg q)).y0 mm) (atN (grpOf n (rg q)).e1 (grpOf n (rg q)).y1 mm)) = #[.int .i64 ((atN (grpOf n (rg q)).f0 (grpOf n (rg q)).x0 mm : Nat) : Int), .int .i64 ((atN (grpOf n (rg q)).f1 (grpOf n (rg q)).x1 mm : Nat) : Int), .int .i64 ((atN (grpOf n (rg q)).e0 (grpOf n (rg q)).y0 mm : Nat) : Int), .int .i64 ((atN (grpOf n (rg q)).e1 (grpOf n (rg q)).y1 mm : Nat) : Int)] from by simp [chc, sw, hkp]]
                    exact g39
                clear hx27 g39
                rintro E h28 N29 D ⟨rfl, hx28, g39, hE⟩
                obtain ⟨E19, rfl⟩ := hE.ex
                have hS := hS.ext hx28
                have hwl1 := allTo_len G hGml q
                have hwl2 := (grpOf n (rg q)).upto_len G p
                have hrl := rcells_len (allTo GL G q ++ (grpOf n (rg q)).upto G p)
                rw [List.length_append] at hrl
                have hrb : (rcells (allTo GL G q ++ (grpOf n (rg q)).upto G p)).length ≤ 1500000 := by omega
                refine n_then ?_
                refine c_region (by kernel_rfl) ?_
                refine st_q (ok_move (v := .slice _ _ _) rfl ⟨rfl, rfl, rfl⟩) ?_
                refine st_q (ok_loadAgg (ty rfl) rfl g39 (Nat.le_of_ble_eq_true rfl) rfl ⟨rfl, rfl, rfl⟩) ?_
                refine st_q (ok_fieldAddr (fld rfl) rfl ⟨rfl, rfl, rfl⟩) ?_
                refine st_q (ok_load (ty rfl) rfl (hS.oth _ _ xg) rfl ⟨rfl, rfl, rfl⟩) ?_
                refine st_q (ok_build rfl (v := .agg (rcell ((grpOf n (rg q)).rc p mm)).toArray) (fun _ => by kernel_rfl) ⟨rfl, rfl, rfl⟩) ?_
                refine st (ok_buildSlice (sl rfl) (ty rfl) rfl (vs := (rcell ((grpOf n (rg q)).rc p mm)).toArray) (by kernel_rfl) (by decide) (by decide) (fun hN395 => ?_))
                refine st (ok_append rfl (sl rfl) (ty rfl) rfl rfl (hL.ow.ext (hS.oth.trans (Ext.push hN395 _))) rfl (hset_same _ _ _) (Nat.le_of_ble_eq_true rfl) (by simp [isOne, rcell]) (by decide) (by decide) (by omega) (by omega) (fun b5 n5 c5 cs5 N30 hcase hcz hnc hln htk hnq => ?_))
                refine st_q (ok_assign (v := .slice _ _ _) rfl ⟨rfl, rfl, rfl⟩) ?_
                refine o_nil ?_
                have hS5 := hS.fresh (hN395 _ (Nat.le_refl _)) (.cells (rcell ((grpOf n (rg q)).rc p mm)).toArray 60 (0, 0))
                obtain ⟨X5, hS6, hL6, hk6⟩ := LG.growW (r := (grpOf n (rg q)).rc p mm) hS5 hL hcase hcz hnc hln htk
                refine n_block (n_then ?_)
                refine c_region (by kernel_rfl) ?_
                refine st_q (ok_add rfl rfl (by omega) (by omega) ⟨rfl, rfl, rfl⟩) ?_
                refine st_q (ok_move (v := .int _ _) rfl ⟨rfl, rfl, rfl⟩) ?_
                refine o_nil ?_
                refine n_then ⟨k3 - 1, by omega, rfl, by omega, X5, _, _, _, hS6, ?_, hk6 _ _ _ _ xg rfl, hk6 _ _ _ _ xm rfl, rfl, rfl, rfl, rfl, rfl, rfl, rfl, rfl, rfl, rfl, rfl, rfl, rfl, hlast3, trivial⟩
                rw [hnext3, upto_succ, h1, ← List.append_assoc]; exact hL6
          · skip
            have hk0 : k3 = 0 := by omega
            subst hk0
            refine c_exit ?_
            exact x_then (x_then (x_block (n_then ⟨rfl, X, aw, nw, cw, hS, hL, rfl, rfl, rfl, rfl, rfl, rfl, rfl, rfl, rfl, rfl, rfl, trivial⟩)))
        clear hS hL
        rintro E h22 N23 D ⟨rfl, X, aw, nw, cw, hS, hL, hE⟩
        obtain ⟨E14, rfl⟩ := hE.ex
        refine n_block (n_then ?_)
        skip
        refine c_region (by kernel_rfl) ?_
        refine st_q (ok_add rfl rfl (by omega) (by omega) ⟨rfl, rfl, rfl⟩) ?_
        refine st_q (ok_move (v := .int _ _) rfl ⟨rfl, rfl, rfl⟩) ?_
        refine o_nil ?_
        refine n_then ⟨k - 1, by omega, rfl, by omega, X, some ⟨b', 0, none⟩, n', c', _, aw, nw, cw, hS, ?_, by rw [hnext]; exact hgl6, rfl, rfl, rfl, rfl, rfl, rfl, rfl, rfl, hlast, trivial⟩
        rw [if_neg Bool.false_ne_true, hnext, allTo_succ hgq, hmlen]; exact hL
    · skip
      have hk0 : k = 0 := by omega
      subst hk0
      rw [Nat.sub_zero] at hL hgl
      refine c_exit ?_
      exact x_then (x_then (x_block (n_then ⟨rfl, X, ag2, ng, cg2, gl, aw, nw, cw, hS, hL, by rw [hgl, ← hGLl, List.take_length], rfl, rfl, rfl, trivial⟩)))
  clear hS hL hLG0
  rintro E h11 N11 D ⟨rfl, X, ag2, ng, cg2, gl, aw, nw, cw, hS, hL, hgl, hE⟩
  obtain ⟨E8, rfl⟩ := hE.ex
  refine n_then ?_
  obtain ⟨wl, hwl⟩ : ∃ wl, wl = (if c = true then [] else allTo GL G lg) := ⟨_, rfl⟩
  rw [← hwl] at hL
  have hwn : nw = wl.length := by
    rcases hL.ow with ⟨h1, h2⟩ | ⟨_, _, _, _, h1, _, _, _, h5, _⟩
    · cases h1
      cases wl with
      | nil => rfl
      | cons a l => simp [rcells, rcell] at h2
    · cases h1; rw [rcells_len] at h5; omega
  have hnw : nw ≤ cw := by
    rcases hL.ow with ⟨h1, _⟩ | ⟨_, _, _, _, h1, _, _, h4, _⟩
    · cases h1; exact Nat.le_refl _
    · cases h1; exact h4
  subst hwn
  obtain ⟨L, hLd⟩ : ∃ L, L = (if 0 < sp ∧ sp < wl.length then sp else wl.length) := ⟨_, rfl⟩
  have hLle : L ≤ wl.length := by rw [hLd]; split <;> omega
  refine c_seq ?_
  refine c_cut (fun E h' N' D => D = [] ∧ h' = h11 ∧ N' = N11 ∧ Fr E [(9, .pointer (some ⟨N, 0, none⟩)), (13, .pointer (some ⟨bp, 0, none⟩)), (26, .slice aw L cw)]) ?_ ?_
  · skip
    refine c_seq ?_
    refine c_cut (fun E h' N' D => D = [] ∧ h' = h11 ∧ N' = N11 ∧ Fr E [(407, .bool (decide (0 < sp ∧ sp < wl.length))), (9, .pointer (some ⟨N, 0, none⟩)), (13, .pointer (some ⟨bp, 0, none⟩)), (26, .slice aw wl.length cw)]) ?_ ?_
    · by_cases h0 : 0 < sp
      · skip
        refine c_region (by kernel_rfl) ?_
        refine st_q (ok_load (ty rfl) rfl (hS.oth _ _ hL.x9) rfl ⟨rfl, rfl, rfl⟩) ?_
        refine st_q (ok_gtr_t rfl rfl ((by omega)) ⟨rfl, rfl, rfl⟩) ?_
        refine st_q (ok_move (v := .bool _) rfl ⟨rfl, rfl, rfl⟩) ?_
        refine st_g rfl (ok_move (v := .slice _ _ _) rfl ⟨rfl, rfl, rfl⟩) ?_
        refine st_g rfl (ok_len (sl rfl) rfl ⟨rfl, rfl, rfl⟩) ?_
        refine st_g rfl (ok_load (ty rfl) rfl (hS.oth _ _ hL.x9) rfl ⟨rfl, rfl, rfl⟩) ?_
        refine st_g rfl (ok_convert (ik rfl) (ik rfl) rfl (wrap_i64 (by omega) (by omega)) ⟨rfl, rfl, rfl⟩) ?_
        refine st_g rfl (ok_gtr rfl rfl ⟨rfl, rfl, rfl⟩) ?_
        refine st_q (ok_pick_true rfl rfl ⟨rfl, rfl, rfl⟩) ?_
        refine o_nil ?_
        refine n_then ⟨rfl, rfl, rfl, ?_, rfl, rfl, rfl, trivial⟩
        show Value.bool (decide ((sp : Int) < (wl.length : Int))) = _
        congr 1
        rw [Bool.eq_iff_iff, decide_eq_true_eq, decide_eq_true_eq]
        omega
      · skip
        refine c_region (by kernel_rfl) ?_
        refine st_q (ok_load (ty rfl) rfl (hS.oth _ _ hL.x9) rfl ⟨rfl, rfl, rfl⟩) ?_
        refine st_q (ok_gtr_f rfl rfl ((by omega)) ⟨rfl, rfl, rfl⟩) ?_
        refine st_q (ok_move (v := .bool _) rfl ⟨rfl, rfl, rfl⟩) ?_
        refine st_s rfl ?_
        refine st_s rfl ?_
        refine st_s rfl ?_
        refine st_s rfl ?_
        refine st_s rfl ?_
        refine st_q (ok_pick_false rfl rfl ⟨rfl, rfl, rfl⟩) ?_
        refine o_nil ?_
        refine n_then ⟨rfl, rfl, rfl, ?_, rfl, rfl, rfl, trivial⟩
        show Value.bool false = _
        simp [h0]
    rintro E h12 N12 D ⟨rfl, rfl, rfl, hE⟩
    obtain ⟨E9, rfl⟩ := hE.ex
    refine n_then ?_
    refine c_cond_prop rfl (fun hc => ?_) (fun hc => ?_)
    · skip
      rw [if_pos hc] at hLd
      refine c_region (by kernel_rfl) ?_
      refine st_q (ok_move (v := .slice _ _ _) rfl ⟨rfl, rfl, rfl⟩) ?_
      refine st_q (ok_load (ty rfl) rfl (hS.oth _ _ hL.x9) rfl ⟨rfl, rfl, rfl⟩) ?_
      refine st_q (ok_convert (ik rfl) (ik rfl) rfl (wrap_i64 (by omega) (by omega)) ⟨rfl, rfl, rfl⟩) ?_
      refine st_q (ok_slice_hi (sl rfl) (ty rfl) rfl rfl (by omega) (by omega) ⟨rfl, rfl, rfl⟩) ?_
      refine st_q (ok_assign (v := .slice _ _ _) rfl ⟨rfl, rfl, rfl⟩) ?_
      refine o_nil ?_
      exact n_then ⟨rfl, rfl, rfl, rfl, rfl, by rw [hLd]; rfl, trivial⟩
    · skip
      rw [if_neg hc] at hLd
      refine c_skip ?_
      exact n_then ⟨rfl, rfl, rfl, rfl, rfl, by rw [hLd]; rfl, trivial⟩
  rintro E h12 N12 D ⟨rfl, rfl, rfl, hE⟩
  obtain ⟨E9, rfl⟩ := hE.ex
  refine n_then ?_
  have hdz : ∀ c, m c = none ∨ X c = none := hS.dis
  have hS0 := hS.lend
  have hmX : Ext m (uni m X) := uni_l _ _
  have hES := hES.ext hmX
  have hL := hL.mono (uni_r hdz)
  generalize uni m X = X at *
  clear hS hmX hdz
  refine c_seq ?_
  refine c_region (by kernel_rfl) ?_
  refine st (ok_alloc (ty rfl) rfl (fun hN40 => ?_))
  refine o_nil ?_
  refine n_then ?_
  have hS1 := hS0.push hN40 (.cells #[.slice none 0 0] 43 (0, 0))
  have x40 : X N12 = none := hS0.oth.back (hN40 _ (Nat.le_refl _))
  refine c_seq ?_
  refine c_seq ?_
  refine c_region (by kernel_rfl) ?_
  refine st_q (ok_loadAgg (ty rfl) rfl (hS1.oth _ _ hL.x13) (Nat.le_of_ble_eq_true rfl) rfl ⟨rfl, rfl, rfl⟩) ?_
  refine st (ok_call rfl ent7 (unimplied_ok) rfl ?_)
  rintro _ h13 N13 ⟨rfl, rfl, rfl, hfq⟩
  refine o_nil ?_
  refine n_then ?_
  have xq : X (N12 + 1) = none := hS1.oth.back (hfq _ (Nat.le_refl _))
  refine c_heap (fun h' _ => ∃ X3, Sep (hset (fun _ => none) N12 (.cells #[.slice none 0 0] 43 (0, 0))) X3 h' ∧ Ext X X3 ∧ X3 (N12 + 1) = some (.cells (pcells bn be n (.slice ag2 ng cg2)) 39 (0, 0))) ⟨_, hS1.newX (hfq _ (Nat.le_refl _)) _, (Ext.refl X).fresh xq _, hset_same _ _ _⟩ ?_
  clear hS0 hS1 hfq xq
  rintro h13 N14 ⟨X3, hS, hX3, x3q⟩
  have hES := hES.ext hX3
  have hL := hL.mono hX3
  have hRn : ∀ i, i < n → (R i).Nodup := fun i hi => by
    cases hM : M i with
    | none => rw [hES.nil i hi hM]; exact .nil
    | some b =>
      obtain ⟨es, cl, _, hI⟩ := hES.map i b hi hM
      exact hI.nd
  have hng : ng = GL.length ∧ ∀ k g, GL[k]? = some g → ∃ bg gc fz, ag2 = some ⟨bg, 0, none⟩ ∧ X3 bg = some (.cells gc 51 fz) ∧ GrpAt X3 gc (k * 14) g := by
    have hlen : gl.length = GL.length := by rw [← hgl, List.length_map]
    have hcl := gcells_len gl
    have hget : ∀ k g, GL[k]? = some g → ∃ p : Grp × Nat, gl[k]? = some p ∧ p.1 = g := fun k g hk => by
      rw [← hgl, List.getElem?_map, Option.map_eq_some_iff] at hk
      exact hk
    rcases hL.og with ⟨h1, h2⟩ | ⟨b, n1, c1', gcs, h1, h2, h3, h4, h5, h6⟩
    · cases h1
      rw [h2] at hcl
      have hl0 : gl.length = 0 := by simp at hcl; omega
      refine ⟨by omega, fun k g hk => ?_⟩
      have := (List.getElem?_eq_some_iff.1 hk).1
      omega
    · cases h1
      refine ⟨by omega, fun k g hk => ?_⟩
      obtain ⟨p, hp, rfl⟩ := hget k g hk
      exact ⟨b, gcs, (0, 0), rfl, h2, grp_at h6 h5 h3 h4 hp (hL.mem p (List.mem_of_getElem? hp))⟩
  obtain ⟨rfl, hgs3⟩ := hng
  have hcT : (∃ i, i < n ∧ TC R i i) → wl = [] := fun hh => by rw [hwl, if_pos (hcyc.2 hh)]
  have hcF : (¬ ∃ i, i < n ∧ TC R i i) → wl = allTo GL G GL.length := fun hh => by rw [hwl, if_neg (fun e => hh (hcyc.1 e)), hGLl]
  have hwll : wl.length ≤ 262144 := by
    have h5 := hwlen lg
    rw [← hwl] at h5
    have := Nat.mul_le_mul_right 1024 hlg
    omega
  clear hgl hGml hwlen hcyc hwl
  have x3n : ∀ b, N14 ≤ b → h13 b = none → X3 b = none := fun b _ hb => hS.oth.back hb
  refine c_cut (fun E h' _ D => D = [mark N14] ∧ h N14 = none ∧ (∃ mm X aG nG cG A, Sep mm X h' ∧ mm N14 = some (.deferred (some [])) ∧ Ext X3 X ∧ mm N12 = some (.cells #[.slice aG nG cG] 43 (0, 0)) ∧ Own mm 60 5 (.slice aG nG cG) (rcells A) ∧ A = wl.take L) ∧ Fr E [(26, .slice aw L cw), (40, .pointer (some ⟨N12, 0, none⟩))]) ?_ ?_
  · skip
    refine c_block ?_
    by_cases hfree : ∀ b, N14 ≤ b → h13 b = none
    case neg =>
      refine c_range (σ := Nat) (gf := 8) (ps := [414, 415]) (lb := #[.pointer (some ⟨N12 + 1, 0, none⟩)]) rfl ent8 rfl (fun _ _ _ => False) (fun _ _ _ => False) (fun _ _ _ => False) (fun _ => False) 0 (fun _ hf => hfree hf) (fun _ _ _ _ x => x) (fun _ _ _ _ x => x) (fun _ _ _ x => x.elim) (fun _ _ _ _ _ _ x => x.elim) (fun _ _ _ x => x.1.elim) (fun _ _ _ x => x.elim) (fun _ _ _ x => x.elim)
    have fd := hfree N14 (Nat.le_refl _)
    have fl := hfree (N14 + 1) (by omega)
    have hNd : h N14 = none := hL.ext.back (hS.oth.back fd)
    refine c_range (σ := List Rc × Hp) (gf := 8) (ps := [414, 415]) (lb := #[.pointer (some ⟨N12 + 1, 0, none⟩)]) rfl ent8 rfl
      (fun s h' _ => ∃ mm aG nG cG, Sep mm s.2 h' ∧ mm N14 = some (.deferred (some [])) ∧ mm (N14 + 1) = none ∧ s.2 (N14 + 1) = none ∧ Ext X3 s.2 ∧ mm N12 = some (.cells #[.slice aG nG cG] 43 (0, 0)) ∧ Own mm 60 5 (.slice aG nG cG) (rcells s.1) ∧ (0 < sp → s.1.length < sp))
      (fun cd h' _ => cd = .exit 22 ∧ ∃ mm X aG nG cG A, Sep mm X h' ∧ mm N14 = some (.deferred (some [])) ∧ mm (N14 + 1) = none ∧ X (N14 + 1) = none ∧ Ext X3 X ∧ mm N12 = some (.cells #[.slice aG nG cG] 43 (0, 0)) ∧ Own mm 60 5 (.slice aG nG cG) (rcells A) ∧ A = wl.take L)
      (fun s args s' => ∃ (r : Rc) (C : List Rc), wl = s.1 ++ r :: C ∧ args = [.agg #[.int .i64 (r.1 : Int), .int .i64 (r.2.1 : Int), .int .i64 (r.2.2.1 : Int), .int .i64 (r.2.2.2.1 : Int)], .string r.2.2.2.2] ∧ s' = (s.1 ++ [r], s.2)) (fun s => s.1 = wl) ([], X3) ?_ ?_ ?_ ?_ ?_ ?_ ?_ ?_
    · intro o _
      refine ⟨_, none, 0, 0, (hS.new fd _).fresh ((hset_ne _ _ (by omega)).trans fl) _, hset_same _ _ _, (hset_ne _ _ (by omega)).trans (hS.own.back fl), hS.oth.back fl, Ext.refl _, ?_, .inl ⟨rfl, rfl⟩, fun h0 => h0⟩
      have h40 := hset_same (fun _ => none) N12 (.cells #[.slice none 0 0] 43 (0, 0))
      exact (hset_ne _ _ (ne_of_none h40 (hS.own.back fd))).trans h40
    · rintro s h' N' o ⟨mm, aG, nG, cG, hS, a1, a2, a3, a4⟩
      exact ⟨mm, aG, nG, cG, hS.setO a2 a3 o, a1, a2, a3, a4⟩
    · rintro cd h' N' o ⟨rfl, mm, X5, aG, nG, cG, A, hS, a1, a2, a3, a4⟩
      exact ⟨rfl, mm, X5, aG, nG, cG, A, hS.setO a2 a3 o, a1, a2, a3, a4⟩
    · rintro s args s' ⟨r, C, _, rfl, _⟩; rfl
    · rintro Rc s args s' h' N' ⟨r, C, hrC, rfl, rfl⟩ hRd ⟨mm, aG, nG, cG, hS, a1, a2, a3, a4, g40, hO, hsp⟩ hlr hd
      refine c_seq ?_
      refine c_region (by kernel_rfl) ?_
      refine st (ok_alloc (ty rfl) rfl (fun hN41 => ?_))
      refine st0 (ok_storeL (ty rfl) rfl (v := .agg _) rfl rfl rfl rfl (hset_same _ _ _) (Nat.le_of_ble_eq_true rfl) ?_)
      refine o_nil ?_
      refine n_then ?_
      refine c_region (by kernel_rfl) ?_
      refine st_q (ok_assign (v := .string _) rfl ⟨rfl, rfl, rfl⟩) ?_
      refine o_nil ?_
      have n1 : N14 + 1 ≠ N' := ne_of_none hlr (hN41 _ (Nat.le_refl _))
      refine n_then ⟨(hset_ne _ _ n1).trans ((hset_ne _ _ n1).trans hlr), ?_⟩
      have x41 : s.2 N' = none := hS.oth.back (hN41 _ (Nat.le_refl _))
      refine c_heap (fun h2 _ => ∃ X5, Sep mm X5 h2 ∧ Ext s.2 X5 ∧ X5 (N14 + 1) = some (Rc.obj .busy none) ∧ X5 N' = some (.cells #[.int .i64 (r.1 : Int), .int .i64 (r.2.1 : Int), .int .i64 (r.2.2.1 : Int), .int .i64 (r.2.2.2.1 : Int)] 58 (0, 0))) ⟨_, (((hS.newX (hN41 _ (Nat.le_refl _)) _).setX (hset_same _ _ _) _).setO a2 ((hset_ne _ _ n1).trans ((hset_ne _ _ n1).trans a3)) _).takeX (hset_same _ _ _) a2, (((Ext.refl _).fresh x41 _).fresh x41 _).fresh a3 _, hset_same _ _ _, (hset_ne _ _ (fun e => n1 e.symm)).trans (hset_same _ _ _)⟩ ?_
      have hdefM := a1
      clear hS
      rintro h2 N2 ⟨X5, hS, hX5, x5l, x5r⟩
      have hwl2 : wl.length = s.1.length + 1 + C.length := by rw [hrC]; simp; omega
      have hrl := rcells_len s.1
      have x9' := (a4.trans hX5) _ _ hL.x9
      refine c_block ?_
      refine c_seq ?_
      refine c_region (by kernel_rfl) ?_
      refine st_q (ok_load (ty rfl) rfl (hS.own _ _ g40) rfl ⟨rfl, rfl, rfl⟩) ?_
      refine st_q (ok_loadAgg (ty rfl) rfl (hS.oth _ _ x5r) (Nat.le_of_ble_eq_true rfl) rfl ⟨rfl, rfl, rfl⟩) ?_
      refine st_q (ok_move (v := .string _) rfl ⟨rfl, rfl, rfl⟩) ?_
      refine st_q (ok_build rfl (v := .agg (rcell r).toArray) (fun _ => by kernel_rfl) ⟨rfl, rfl, rfl⟩) ?_
      refine st (ok_buildSlice (sl rfl) (ty rfl) rfl (vs := (rcell r).toArray) (by kernel_rfl) (by decide) (by decide) (fun hN420 => ?_))
      refine st (ok_append rfl (sl rfl) (ty rfl) rfl rfl (hO.ext (hS.own.trans (Ext.push hN420 _))) rfl (hset_same _ _ _) (Nat.le_of_ble_eq_true rfl) (by simp [isOne, rcell]) (by decide) (by decide) (by omega) (by omega) (fun b5 n5 c5 cs5 N30 hcase hcz hnc hln htk hnq => ?_))
      have hS5 := hS.fresh (hN420 _ (Nat.le_refl _)) (.cells (rcell r).toArray 60 (0, 0))
      obtain ⟨hS6, hO6, hk6⟩ := own_grow (ys := rcells s.1 ++ rcell r) hS5 hO hcase hcz hnc hln htk
      have g406 := hk6 _ _ g40 (hO.noty g40 rfl)
      have hd6 := hk6 _ _ a1 (hO.nodef a1)
      refine st0 (ok_store (ty rfl) rfl (v := .slice _ _ _) rfl rfl (hS6.own _ _ g406) (Nat.le_of_ble_eq_true rfl) ?_)
      refine o_nil ?_
      refine n_then ?_
      have hS7 := hS6.set g406 (.cells #[.slice (some ⟨b5, 0, none⟩) n5 c5] 43 (0, 0))
      have hd7 := (hset_ne _ (.cells #[.slice (some ⟨b5, 0, none⟩) n5 c5] 43 (0, 0)) (ne_of_obj hd6 g406 (by intro e; cases e))).trans hd6
      have hO7 := hO6.off (hO6.noty g406 rfl) (.cells #[.slice (some ⟨b5, 0, none⟩) n5 c5] 43 (0, 0))
      have hn5 : n5 = s.1.length + 1 := by simp [rcell] at hln; omega
      rw [show rcells s.1 ++ rcell r = rcells (s.1 ++ [r]) from by simp [rcells]] at hO7
      refine c_heap (fun h3 _ => ∃ m7, Sep m7 X5 h3 ∧ m7 N14 = some (.deferred (some [])) ∧ m7 N12 = some (.cells #[.slice (some ⟨b5, 0, none⟩) n5 c5] 43 (0, 0)) ∧ Own m7 60 5 (.slice (some ⟨b5, 0, none⟩) n5 c5) (rcells (s.1 ++ [r]))) ⟨_, hS7, hd7, hset_same _ _ _, hO7⟩ ?_
      clear hS hS5 hS6 hS7 hO hO6 hO7 g40 g406 hd6 hd7 hk6 hcase hln htk hnq
      rintro h3 N3 ⟨m7, hS, hd7, g40, hO⟩
      refine c_seq ?_
      refine c_cut (fun E h' N' D => D = [] ∧ h' = h3 ∧ N' = N3 ∧ Fr E [(430, .bool (decide (0 < sp ∧ sp ≤ s.1.length + 1)))]) ?_ ?_
      · by_cases h0 : 0 < sp
        · skip
          refine c_region (by kernel_rfl) ?_
          refine st_q (ok_load (ty rfl) rfl (hS.oth _ _ x9') rfl ⟨rfl, rfl, rfl⟩) ?_
          refine st_q (ok_gtr_t rfl rfl ((by omega)) ⟨rfl, rfl, rfl⟩) ?_
          refine st_q (ok_move (v := .bool _) rfl ⟨rfl, rfl, rfl⟩) ?_
          refine st_g rfl (ok_load (ty rfl) rfl (hS.own _ _ g40) rfl ⟨rfl, rfl, rfl⟩) ?_
          refine st_g rfl (ok_len (sl rfl) rfl ⟨rfl, rfl, rfl⟩) ?_
          refine st_g rfl (ok_load (ty rfl) rfl (hS.oth _ _ x9') rfl ⟨rfl, rfl, rfl⟩) ?_
          refine st_g rfl (ok_convert (ik rfl) (ik rfl) rfl (wrap_i64 (by omega) (by omega)) ⟨rfl, rfl, rfl⟩) ?_
          refine st_g rfl (ok_geq rfl rfl ⟨rfl, rfl, rfl⟩) ?_
          refine st_q (ok_pick_true rfl rfl ⟨rfl, rfl, rfl⟩) ?_
          refine o_nil ?_
          refine n_then ⟨rfl, rfl, rfl, ?_, trivial⟩
          show Value.bool (decide ((sp : Int) ≤ (n5 : Int))) = _
          congr 1
          rw [Bool.eq_iff_iff, decide_eq_true_eq, decide_eq_true_eq]
          omega
        · skip
          refine c_region (by kernel_rfl) ?_
          refine st_q (ok_load (ty rfl) rfl (hS.oth _ _ x9') rfl ⟨rfl, rfl, rfl⟩) ?_
          refine st_q (ok_gtr_f rfl rfl ((by omega)) ⟨rfl, rfl, rfl⟩) ?_
          refine st_q (ok_move (v := .bool _) rfl ⟨rfl, rfl, rfl⟩) ?_
          refine st_s rfl ?_
          refine st_s rfl ?_
          refine st_s rfl ?_
          refine st_s rfl ?_
          refine st_s rfl ?_
          refine st_q (ok_pick_false rfl rfl ⟨rfl, rfl, rfl⟩) ?_
          refine o_nil ?_
          refine n_then ⟨rfl, rfl, rfl, ?_, trivial⟩
          show Value.bool false = _
          simp [h0]
      rintro E h4 N4 D ⟨rfl, rfl, rfl, hE⟩
      obtain ⟨E11, rfl⟩ := hE.ex
      refine n_then ?_
      have hbusy := hS.oth _ _ x5l
      have hnl := hS.notm x5l
      refine c_cond_prop rfl (fun hc => ?_) (fun hc => ?_)
      · skip
        refine c_exit ?_
        refine x_block_ne (by decide) ⟨⟨hbusy, by rw [hRd]; exact hS.own _ _ hd7⟩, rfl, m7, s.2, _, _, _, s.1 ++ [r], hS.dropX hX5, hd7, hnl, a3, a4, g40, hO, ?_⟩
        have h5 := hsp hc.1
        have hLv : L = s.1.length + 1 := by rw [hLd]; split <;> omega
        rw [hLv, hrC, show s.1 ++ r :: C = (s.1 ++ [r]) ++ C from by simp, List.take_left' (by simp)]
      · skip
        refine c_skip ?_
        refine n_block ⟨⟨hbusy, by rw [hRd]; exact hS.own _ _ hd7⟩, m7, _, _, _, hS.dropX hX5, hd7, hnl, a3, a4, g40, hO, fun h0 => ?_⟩
        simp; omega
    · intro Rk hRd hYl hlive
      refine (unimplIter_ok (l := N14 + 1) (Y := X3) (J := fun A X h' N' => Live (fun (s : List Rc × Hp) h' (_ : Nat) => ∃ mm aG nG cG, Sep mm s.2 h' ∧ mm N14 = some (.deferred (some [])) ∧ mm (N14 + 1) = none ∧ s.2 (N14 + 1) = none ∧ Ext X3 s.2 ∧ mm N12 = some (.cells #[.slice aG nG cG] 43 (0, 0)) ∧ Own mm 60 5 (.slice aG nG cG) (rcells s.1) ∧ (0 < sp → s.1.length < sp)) (N14 + 1) Rk (A, X) h' N') (Jx := fun h' N' => Stopped (fun cd h' (_ : Nat) => cd = .exit 22 ∧ ∃ mm X aG nG cG A, Sep mm X h' ∧ mm N14 = some (.deferred (some [])) ∧ mm (N14 + 1) = none ∧ X (N14 + 1) = none ∧ Ext X3 X ∧ mm N12 = some (.cells #[.slice aG nG cG] 43 (0, 0)) ∧ Own mm 60 5 (.slice aG nG cG) (rcells A) ∧ A = wl.take L) (N14 + 1) Rk h' N') x3q rfl rfl rfl rfl hgs3 (by omega) hES hRn hRl hn1 hn hGok hMM hcT hcF ?_ ?_ ?_ hlive (Ext.refl _)).mono ?_
      · rintro A X5 h' N' ⟨⟨mm, _, _, _, hS, _⟩, _⟩; exact hS.oth
      · rintro A X5 h' N' h2 N2 ⟨⟨mm, aG, nG, cG, hS, a1, a2, a3, a4, a5⟩, b1, b2⟩ hx
        obtain ⟨hS2, hx1, hx2⟩ := hS.join (sep_new hx)
        refine ⟨_, hx1, fun c o hc ho => hx2 _ _ ((sub_eq hc).trans ho), ⟨mm, aG, nG, cG, hS2, a1, a2, ?_, a4.trans hx1, a5⟩, hx _ _ b1, hx _ _ b2⟩
        refine uni_none ?_ a3
        simp only [sub, b1]
      · intro A r C X5 h' N' hr hv
        exact hYl (A, X5) _ (A ++ [r], X5) h' N' ⟨r, C, hr, rfl, rfl⟩ hv
      · rintro _ h' N' (⟨X5, hv⟩ | hv)
        · exact .inl ⟨(wl, X5), rfl, hv⟩
        · exact .inr hv
    · rintro s h' N' hfin ⟨mm, aG, nG, cG, hS, a1, a2, a3, a4, g40, hO, hsp⟩ _
      have hLv : L = wl.length := by
        have : 0 < sp → wl.length < sp := by rw [← hfin]; exact hsp
        rw [hLd]; split <;> omega
      exact n_block (n_then ⟨rfl, hNd, ⟨mm, s.2, aG, nG, cG, s.1, hS, a1, a4, g40, hO, by rw [hLv, hfin, List.take_length]⟩, rfl, rfl, trivial⟩)
    · rintro cd h' N' ⟨rfl, mm, X5, aG, nG, cG, A, hS, a1, a2, a3, a4, g40, hO, hA⟩ _
      exact c_exit (x_block (n_then ⟨rfl, hNd, ⟨mm, X5, aG, nG, cG, A, hS, a1, a4, g40, hO, hA⟩, rfl, rfl, trivial⟩))
  clear hS
  rintro E h14 N15 D ⟨rfl, hNd, ⟨mm, X5, aG, nG, cG, A, hS, hdf, hX5, g40, hO, hA⟩, hE⟩
  obtain ⟨E10, rfl⟩ := hE.ex
  refine n_then ?_
  have hAl : A.length = L := by rw [hA, List.length_take]; omega
  have hnG : nG = A.length := by
    rcases hO with ⟨h1, h2⟩ | ⟨_, _, _, _, h1, _, _, _, h5, _⟩
    · cases h1
      cases A with
      | nil => rfl
      | cons a l => simp [rcells, rcell] at h2
    · cases h1; rw [rcells_len] at h5; omega
  subst hnG
  have hAw : ∀ k r, A[k]? = some r → wl[k]? = some r := fun k r hk => by
    rw [hA, List.getElem?_take] at hk
    split at hk
    · exact hk
    · cases hk
  have hL5 := hL.mono hX5
  refine c_seq ?_
  refine c_seq ?_
  refine c_region (by kernel_rfl) ?_
  refine st_q (ok_load (ty rfl) rfl (hS.own _ _ g40) rfl ⟨rfl, rfl, rfl⟩) ?_
  refine st_q (ok_len (sl rfl) rfl ⟨rfl, rfl, rfl⟩) ?_
  refine st_q (ok_move (v := .slice _ _ _) rfl ⟨rfl, rfl, rfl⟩) ?_
  refine st_q (ok_len (sl rfl) rfl ⟨rfl, rfl, rfl⟩) ?_
  refine st_q (ok_neq_f rfl rfl ((by omega)) ⟨rfl, rfl, rfl⟩) ?_
  refine o_nil ?_
  refine n_then ?_
  refine c_cond_false rfl ?_
  refine c_skip ?_
  refine n_then ?_
  refine c_seq ?_
  refine c_seq ?_
  refine c_region (by kernel_rfl) ?_
  refine st_q (ok_load (ty rfl) rfl (hS.own _ _ g40) rfl ⟨rfl, rfl, rfl⟩) ?_
  refine st_q (ok_len (sl rfl) rfl ⟨rfl, rfl, rfl⟩) ?_
  refine st_q (ok_move (v := .int _ _) rfl ⟨rfl, rfl, rfl⟩) ?_
  refine o_nil ?_
  refine n_then ?_
  have row5 : ∀ (l : List Rc) (nl cl : Nat) (cs : Array Value) (k : Nat) (r : Rc), cs.toList.take (nl * 5) = rcells l → (rcells l).length = nl * 5 → cs.size = cl * 5 → nl ≤ cl → l[k]? = some r → k * 5 + 5 ≤ cs.size ∧ (cs.toList.drop (k * 5)).take 5 = rcell r := by
    intro l nl cl cs k r h1 h2 h3 h4 h5
    have hk : k < l.length := (List.getElem?_eq_some_iff.1 h5).1
    rw [rcells_len] at h2
    refine ⟨by omega, ?_⟩
    apply List.ext_getElem?
    intro j
    rw [List.getElem?_take]
    by_cases hj : j < 5
    · rw [if_pos hj, List.getElem?_drop, ← flat_get rcell 5 (fun _ => rfl) l k j r h5 hj]
      have h6 : (rcells l)[k * 5 + j]? = (cs.toList.take (nl * 5))[k * 5 + j]? := by rw [h1]
      rw [List.getElem?_take, if_pos (by omega)] at h6
      exact h6.symm
    · rw [if_neg hj, List.getElem?_eq_none (by show (rcell r).length ≤ j; simp [rcell]; omega)]
  refine c_cut (fun E h' N' D => D = [mark N14] ∧ h' = h14 ∧ N' = N15 ∧ Fr E [(26, .slice aw L cw)]) ?_ ?_
  · skip
    refine c_block ?_
    refine c_loop (fun k E h' N' D => D = [mark N14] ∧ h' = h14 ∧ N' = N15 ∧ k ≤ A.length ∧ Fr E [(26, .slice aw L cw), (40, .pointer (some ⟨N12, 0, none⟩)), (437, .int .i64 (A.length : Int)), (438, .int .i64 ((A.length - k : Nat) : Int))]) (k := A.length) ⟨rfl, rfl, rfl, Nat.le_refl _, rfl, rfl, rfl, by rw [Nat.sub_self]; rfl, trivial⟩ ?_
    rintro k E h15 N16 D ⟨rfl, rfl, rfl, hk, hE⟩
    obtain ⟨E11, rfl⟩ := hE.ex
    refine c_seq ?_
    refine c_region (by kernel_rfl) ?_
    refine st_q (ok_lss rfl rfl ⟨rfl, rfl, rfl⟩) ?_
    refine o_nil ?_
    refine n_then ?_
    refine c_seq ?_
    refine c_cond_prop rfl (fun hc => ?_) (fun hc => ?_)
    · skip
      generalize hi : A.length - k = i at *
      have hiA : i < A.length := by omega
      have hgA := List.getElem?_eq_getElem hiA
      generalize A[i] = r at *
      have hgw := hAw i r hgA
      rcases hO with ⟨_, h2⟩ | ⟨bG, n1, c1', csG, h1, h2, h3, h4, h5, h6⟩
      · have h7 := congrArg List.length h2
        rw [rcells_len] at h7
        simp at h7; omega
      cases h1
      obtain ⟨za, ta⟩ := row5 A _ _ csG i r h6 h5 h3 h4 hgA
      rcases hL5.ow with ⟨_, k2⟩ | ⟨bW, n2, c2', csW, k1, k2, k3, k4, k5, k6⟩
      · have h7 := congrArg List.length k2
        rw [rcells_len] at h7
        have := (List.getElem?_eq_some_iff.1 hgw).1
        simp at h7; omega
      cases k1
      obtain ⟨zb, tb⟩ := row5 wl _ _ csW i r k6 k5 k3 k4 hgw
      refine c_skip ?_
      refine n_then ?_
      refine c_seq ?_
      refine c_block ?_
      refine c_seq ?_
      refine c_region (by kernel_rfl) ?_
      refine st_q (ok_move (v := .int _ _) rfl ⟨rfl, rfl, rfl⟩) ?_
      refine st_q (ok_assign (v := .int _ _) rfl ⟨rfl, rfl, rfl⟩) ?_
      refine o_nil ?_
      refine n_then ?_
      refine c_seq ?_
      refine c_cut (fun E h' N' D => D = [mark N14] ∧ h' = h15 ∧ N' = N16 ∧ Fr E [(449, .bool false), (26, .slice (some ⟨bW, 0, none⟩) L cw), (40, .pointer (some ⟨N12, 0, none⟩)), (437, .int .i64 (A.length : Int)), (438, .int .i64 (i : Int))]) ?_ ?_
      · skip
        refine c_draw mixed [] 9 rfl [((0, 1), [((1, 2), [((2, 2), [((3, 1), [((4, 2), [((5, 2), [((6, 2), [((7, 1), [((8, 2), ())])])])])])])])])] (by kernel_rfl) (by kernel_rfl) ?_
        refine w_r rfl (fun _ _ hExt => ok_load (ty rfl) rfl (hExt _ _ (hS.own _ _ g40)) rfl ⟨rfl, rfl, rfl⟩) ?_
        refine w_p rfl (fun _ _ => ok_move (v := .int _ _) rfl ⟨rfl, rfl, rfl⟩) ?_
        refine w_p rfl (fun _ _ => ok_indexAddr (sl rfl) (ty rfl) rfl rfl (by omega) (by omega) (off := (i * 5)) (by omega) ⟨rfl, rfl, rfl⟩) ?_
        refine w_r rfl (fun _ _ hExt => ok_loadAgg (ty rfl) rfl (hExt _ _ (hS.own _ _ h2)) za ta ⟨rfl, rfl, rfl⟩) ?_
        refine w_p rfl (fun _ _ => ok_move (v := .slice _ _ _) rfl ⟨rfl, rfl, rfl⟩) ?_
        refine w_p rfl (fun _ _ => ok_move (v := .int _ _) rfl ⟨rfl, rfl, rfl⟩) ?_
        refine w_p rfl (fun _ _ => ok_indexAddr (sl rfl) (ty rfl) rfl rfl (by omega) (by omega) (off := (i * 5)) (by omega) ⟨rfl, rfl, rfl⟩) ?_
        refine w_r rfl (fun _ _ hExt => ok_loadAgg (ty rfl) rfl (hExt _ _ (hS.oth _ _ k2)) zb tb ⟨rfl, rfl, rfl⟩) ?_
        refine w_p rfl (fun _ _ => ok_neq60 rfl rfl ⟨rfl, rfl, rfl⟩) ?_
        refine w_nil ?_
        exact n_then ⟨rfl, rfl, rfl, rfl, rfl, rfl, rfl, rfl, trivial⟩
      rintro E h16 N17 D ⟨rfl, rfl, rfl, hE⟩
      obtain ⟨E12, rfl⟩ := hE.ex
      refine n_then ?_
      refine c_cond_false rfl ?_
      refine c_skip ?_
      refine n_block (n_then ?_)
      refine c_region (by kernel_rfl) ?_
      refine st_q (ok_add rfl rfl (by omega) (by omega) ⟨rfl, rfl, rfl⟩) ?_
      refine st_q (ok_move (v := .int _ _) rfl ⟨rfl, rfl, rfl⟩) ?_
      refine o_nil ?_
      refine n_then ⟨k - 1, by omega, rfl, rfl, rfl, by omega, rfl, rfl, rfl, ?_, trivial⟩
      show Value.int .i64 ((i : Int) + 1) = _
      congr 1; omega
    · skip
      refine c_exit ?_
      exact x_then (x_then (x_block (n_then ⟨rfl, rfl, rfl, rfl, trivial⟩)))
  rintro E h15 N16 D ⟨rfl, rfl, rfl, hE⟩
  obtain ⟨E11, rfl⟩ := hE.ex
  refine n_then ?_
  refine c_seq ?_
  refine c_region (by kernel_rfl) ?_
  refine st_q (ok_assign (v := .bool _) rfl ⟨rfl, rfl, rfl⟩) ?_
  refine o_nil ?_
  refine n_then ?_
  refine c_ret ?_
  exact r_leave ⟨N14, rfl, hS.own _ _ hdf, leave_tmp rfl rfl ⟨rfl, (hL5.ext.trans hS.oth).fresh hNd _⟩⟩
end
end Sx
end Go.Proofs.YbulkcsqkGreat
