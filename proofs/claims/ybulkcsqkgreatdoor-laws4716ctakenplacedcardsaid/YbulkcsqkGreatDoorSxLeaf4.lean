import Derived.Test.YbulkcsqkGreatDoorSxLeaf3
namespace Go.Proofs.YbulkcsqkGreatDoor
namespace Sx
set_option maxRecDepth 10000
variable {w0 : World}

theorem clone_ok {h : Hp} {N b n c : Nat} {cs : Array Value} {fz : Nat × Nat} (hb : h b = some (.cells cs 3 fz)) (hn : n ≤ cs.size) (h0 : 0 < n) (h9 : n ≤ 1000000) (h1 : ∀ v ∈ (cs.extract 0 (0 + n * 1)).toList, isOne v = true) :
    CallsX Ybaz.prog w0 15 #[.slice (some ⟨b, 0, none⟩) n c] h N (fun v h' _ => Ext h h' ∧ ∃ b' c' cs', v = .slice (some ⟨b', 0, none⟩) n c' ∧ h' b' = some (.cells cs' 3 (0, 0)) ∧ h b' = none ∧ cs'.size = c' ∧ n ≤ c' ∧ cs'.toList.take n = (cs.extract 0 n).toList) := by
  refine calls_of Ybaz.func15 rfl Ybaz.ntmps15 (Nat.le_of_ble_eq_true rfl) ?_
  refine c_seq ?_
  refine c_region (by kernel_rfl) ?_
  refine st_q (ok_assign (v := .slice _ _ _) rfl ⟨rfl, rfl, rfl⟩) ?_
  refine o_nil ?_
  refine n_then (c_seq (c_seq ?_))
  refine c_region (by kernel_rfl) ?_
  refine st_q (ok_move (v := .slice _ _ _) rfl ⟨rfl, rfl, rfl⟩) ?_
  refine st_q (ok_eql_nil (sl rfl) rfl rfl ⟨rfl, rfl, rfl⟩) ?_
  refine o_nil ?_
  refine n_then (c_cond_false rfl (c_skip (n_then (c_seq ?_))))
  refine c_region (by kernel_rfl) ?_
  refine st (ok_buildSlice0 (sl rfl) (ty rfl) (fun hN5 => ?_))
  refine st_q (ok_move (v := .slice _ _ _) rfl ⟨rfl, rfl, rfl⟩) ?_
  have hb2 : hset h N (.cells #[] 3 (0, 0)) b = some (.cells cs 3 fz) := Ext.push hN5 _ _ _ hb
  have hlen : ((cs.extract 0 (0 + n * 1)).toList).length = n := by simp; omega
  refine st (ok_append rfl (sl rfl) (ty rfl) rfl (v := .slice (some ⟨N, 0, none⟩) 0 0) rfl (xs := []) (.inr ⟨N, 0, 0, #[], rfl, hset_same _ _ _, rfl, Nat.le_refl _, rfl, rfl⟩) rfl hb2 (by omega) h1 h0 (by decide) (by simp; omega) (by simp; omega) ?_)
  rintro b' n' c' cs' N' hor hs hle hl ht hnn
  have hn' : n' = n := by simp at hnn; omega
  subst hn'
  refine st_q (ok_assign (v := .slice _ _ _) rfl ⟨rfl, rfl, rfl⟩) ?_
  refine o_nil ?_
  refine n_then (c_ret ?_)
  have hfresh : h b' = none := by
    rcases hor with ⟨rfl, _, _⟩ | ⟨_, _, _, _, e, _⟩
    · exact hN5 _ (by omega)
    · cases e; exact hN5 _ (Nat.le_refl _)
  exact r_leave (leave_tmp rfl (v := .slice _ _ _) rfl ⟨Ext.fresh (Ext.push hN5 _) hfresh _, b', c', cs', rfl, hset_same _ _ _, hfresh, by omega, hle, by simpa using ht⟩)

/-- newHeldChoices over a polygraph that has no group. -/
theorem newHeld_ok {h : Hp} {N bp op : Nat} {cs : Array Value} {te : TypeId} {fz : Nat × Nat} (hb : h bp = some (.cells cs te fz)) (hg : cs[op + 2]? = some (.slice none 0 0)) :
    CallsX Ybaz.prog w0 13 #[.pointer (some ⟨bp, op, none⟩)] h N (fun v h' _ => Ext h h' ∧ ∃ bb, v = .agg #[.pointer (some ⟨bp, op, none⟩), .slice (some ⟨bb, 0, none⟩) 1 1, .int .i64 0, .slice none 0 0, .slice none 0 0, .int .i64 0, .int .i64 0, .slice none 0 0, .slice none 0 0, .slice none 0 0, .slice none 0 0, .slice none 0 0, .slice none 0 0, .slice none 0 0]) := by
  refine calls_of Ybaz.func13 rfl Ybaz.ntmps13 (Nat.le_of_ble_eq_true rfl) ?_
  refine c_seq ?_
  refine c_region (by kernel_rfl) ?_
  refine st (ok_alloc (ty rfl) rfl (fun hN2 => ?_))
  refine o_nil ?_
  have hb1 := Ext.push hN2 (.cells #[.pointer none, .slice none 0 0, .int .i64 0, .slice none 0 0, .slice none 0 0, .int .i64 0, .int .i64 0, .slice none 0 0, .slice none 0 0, .slice none 0 0, .slice none 0 0, .slice none 0 0, .slice none 0 0, .slice none 0 0] 52 (0, 0)) _ _ hb
  refine n_then (c_seq ?_)
  refine c_region (by kernel_rfl) ?_
  refine st_q (ok_move (v := .pointer _) rfl ⟨rfl, rfl, rfl⟩) ?_
  refine st_q (ok_move (v := .pointer _) rfl ⟨rfl, rfl, rfl⟩) ?_
  refine st_q (ok_nilCheck_ptr rfl ⟨rfl, rfl, rfl⟩) ?_
  refine st_q (ok_fieldAddr (fld rfl) rfl ⟨rfl, rfl, rfl⟩) ?_
  refine st_q (ok_load (ty rfl) rfl hb1 hg ⟨rfl, rfl, rfl⟩) ?_
  refine st_q (ok_len (sl rfl) rfl ⟨rfl, rfl, rfl⟩) ?_
  refine st_q (ok_add rfl rfl (by omega) (by omega) ⟨rfl, rfl, rfl⟩) ?_
  refine st (ok_makeSlice (sl rfl) (ty rfl) rfl rfl (by omega) (by omega) (by omega) (by omega) (l' := 1) (c' := 1) (by omega) (by omega) (fun hN12 => ?_))
  refine st_q (ok_build rfl (v := .agg #[.pointer (some ⟨bp, op, none⟩), .slice (some ⟨N + 1, 0, none⟩) 1 1, .int .i64 0, .slice none 0 0, .slice none 0 0, .int .i64 0, .int .i64 0, .slice none 0 0, .slice none 0 0, .slice none 0 0, .slice none 0 0, .slice none 0 0, .slice none 0 0, .slice none 0 0]) (fun _ => by kernel_rfl) ⟨rfl, rfl, rfl⟩) ?_
  refine st (ok_alloc (ty rfl) rfl (fun hN3 => ?_))
  refine st0 (ok_storeL (ty rfl) rfl (v := .agg _) rfl rfl rfl rfl (hset_same _ _ _) (Nat.le_of_ble_eq_true rfl) ?_)
  refine o_nil ?_
  refine n_then (c_seq ?_)
  refine c_heap (fun h' _ => Ext h h' ∧ h N = none ∧ (∃ zc, h' N = some (.cells zc 52 (0, 0)) ∧ zc.size = 14) ∧ h' (N + 2) = some (.cells #[.pointer (some ⟨bp, op, none⟩), .slice (some ⟨N + 1, 0, none⟩) 1 1, .int .i64 0, .slice none 0 0, .slice none 0 0, .int .i64 0, .int .i64 0, .slice none 0 0, .slice none 0 0, .slice none 0 0, .slice none 0 0, .slice none 0 0, .slice none 0 0, .slice none 0 0] 52 (0, 0))) ⟨?_, hN2 _ (Nat.le_refl _), ?_, hset_same _ _ _⟩ ?_
  · exact Ext.fresh (((Ext.push hN2 _).trans (Ext.push hN12 _)).trans (Ext.push hN3 _)) (hN2 _ (by omega)) _
  · rw [hset_ne _ _ (by omega), hset_ne _ _ (by omega), hset_ne _ _ (by omega), hset_same]
    exact ⟨_, rfl, rfl⟩
  rintro h2 N2 ⟨hx, hfr, ⟨zc, hz, hzs⟩, hh⟩
  have hb2 := hx _ _ hb
  refine c_seq ?_
  refine c_region (by kernel_rfl) ?_
  refine st_q (ok_move (v := .pointer _) rfl ⟨rfl, rfl, rfl⟩) ?_
  refine st_q (ok_nilCheck_ptr rfl ⟨rfl, rfl, rfl⟩) ?_
  refine st_q (ok_fieldAddr (fld rfl) rfl ⟨rfl, rfl, rfl⟩) ?_
  refine st_q (ok_load (ty rfl) rfl hb2 hg ⟨rfl, rfl, rfl⟩) ?_
  refine st_q (ok_len (sl rfl) rfl ⟨rfl, rfl, rfl⟩) ?_
  refine st_q (ok_move (v := .int _ _) rfl ⟨rfl, rfl, rfl⟩) ?_
  refine o_nil ?_
  refine n_then (c_block (c_loop1 (c_seq ?_)))
  refine c_region (by kernel_rfl) ?_
  refine st_q (ok_lss rfl rfl ⟨rfl, rfl, rfl⟩) ?_
  refine o_nil ?_
  refine n_then (c_seq (c_cond_false rfl (c_exit ?_)))
  refine x_then (x_then (x_block (n_then (c_seq ?_))))
  refine c_region (by kernel_rfl) ?_
  refine st_q (ok_loadAgg (ty rfl) rfl hh (Nat.le_of_ble_eq_true rfl) rfl ⟨rfl, rfl, rfl⟩) ?_
  refine st0 (ok_storeL (ty rfl) rfl (v := .agg _) rfl rfl rfl rfl hz (by omega) ?_)
  refine o_nil ?_
  refine n_then (c_ret ?_)
  have hl : lay zc 0 [.pointer (some ⟨bp, op, none⟩), .slice (some ⟨N + 1, 0, none⟩) 1 1, .int .i64 0, .slice none 0 0, .slice none 0 0, .int .i64 0, .int .i64 0, .slice none 0 0, .slice none 0 0, .slice none 0 0, .slice none 0 0, .slice none 0 0, .slice none 0 0, .slice none 0 0] = #[.pointer (some ⟨bp, op, none⟩), .slice (some ⟨N + 1, 0, none⟩) 1 1, .int .i64 0, .slice none 0 0, .slice none 0 0, .int .i64 0, .int .i64 0, .slice none 0 0, .slice none 0 0, .slice none 0 0, .slice none 0 0, .slice none 0 0, .slice none 0 0, .slice none 0 0] := by
    apply Array.ext'
    simp only [lay, List.take_zero, List.nil_append]
    rw [List.drop_of_length_le (by simp [hzs])]
    rfl
  have hfin : hset h2 N (.cells (lay zc 0 [.pointer (some ⟨bp, op, none⟩), .slice (some ⟨N + 1, 0, none⟩) 1 1, .int .i64 0, .slice none 0 0, .slice none 0 0, .int .i64 0, .int .i64 0, .slice none 0 0, .slice none 0 0, .slice none 0 0, .slice none 0 0, .slice none 0 0, .slice none 0 0, .slice none 0 0]) 52 (0, 0)) N = some (.cells #[.pointer (some ⟨bp, op, none⟩), .slice (some ⟨N + 1, 0, none⟩) 1 1, .int .i64 0, .slice none 0 0, .slice none 0 0, .int .i64 0, .int .i64 0, .slice none 0 0, .slice none 0 0, .slice none 0 0, .slice none 0 0, .slice none 0 0, .slice none 0 0, .slice none 0 0] 52 (0, 0)) := by rw [hset_same, hl]
  exact r_leave (leave_cell rfl (ty rfl) rfl hfin (Nat.le_of_ble_eq_true rfl) rfl ⟨Ext.fresh hx hfr _, N + 1, rfl⟩)

/-- pred of a graph that has no edge. -/
theorem pred0_ok {h : Hp} {N bs n cc : Nat} {a0 : Option Addr} {n0 c0 : Nat} {g2 g3 g4 : Value} {cs : Array Value} {fz : Nat × Nat} (hb : h bs = some (.cells cs 25 fz)) (hcs : ∀ i, i < n → cs[i]? = some (.slice none 0 0)) (hn : n ≤ 100000) :
    CallsX Ybaz.prog w0 16 #[.agg #[.slice a0 n0 c0, .slice (some ⟨bs, 0, none⟩) n cc, g2, g3, g4]] h N (fun v h' _ => Ext h h' ∧ ∃ b, v = .slice (some ⟨b, 0, none⟩) n n ∧ h' b = some (.cells (Array.replicate n (.slice none 0 0)) 25 (0, 0)) ∧ h b = none) := by
  refine calls_of Ybaz.func16 rfl Ybaz.ntmps16 (Nat.le_of_ble_eq_true rfl) ?_
  refine c_seq ?_
  refine c_region (by kernel_rfl) ?_
  refine st (ok_box (v := .agg _) rfl rfl (fun hN1 => ?_))
  refine st_q (ok_assign (v := .slice _ _ _) rfl ⟨rfl, rfl, rfl⟩) ?_
  refine o_nil ?_
  refine n_then (c_seq ?_)
  refine c_region (by kernel_rfl) ?_
  refine st_q (ok_fieldAddr (fld rfl) rfl ⟨rfl, rfl, rfl⟩) ?_
  refine st_q (ok_load (ty rfl) rfl (hset_same _ _ _) (by rfl) ⟨rfl, rfl, rfl⟩) ?_
  refine st_q (ok_len (sl rfl) rfl ⟨rfl, rfl, rfl⟩) ?_
  refine st (ok_makeSlice (sl rfl) (ty rfl) rfl rfl (by omega) (by omega) (by omega) (by omega) (l' := n) (c' := n) (by omega) (by omega) (fun hN11 => ?_))
  refine st_q (ok_assign (v := .slice _ _ _) rfl ⟨rfl, rfl, rfl⟩) ?_
  refine o_nil ?_
  refine n_then ?_
  refine c_heap (fun h' _ => Ext h h' ∧ h' N = some (.cells #[.slice a0 n0 c0, .slice (some ⟨bs, 0, none⟩) n cc, g2, g3, g4] 39 (0, 0)) ∧ h' (N + 1) = some (.cells (Array.replicate n (.slice none 0 0)) 25 (0, 0)) ∧ h (N + 1) = none) ⟨(Ext.push hN1 _).trans (Ext.push hN11 _), Ext.push hN11 _ _ _ (hset_same _ _ _), ?_, hN1 _ (by omega)⟩ ?_
  · rw [hset_same]
    show some (Obj.cells (madeCells #[.slice none 0 0] (n * 1)) 25 (0, 0)) = _
    rw [madeCells_one, Nat.mul_one]
  rintro h2 N2 ⟨hx, hg, hp, hfr⟩
  have hb2 := hx _ _ hb
  refine c_seq (c_seq ?_)
  refine c_region (by kernel_rfl) ?_
  refine st_q (ok_fieldAddr (fld rfl) rfl ⟨rfl, rfl, rfl⟩) ?_
  refine st_q (ok_load (ty rfl) rfl hg (by rfl) ⟨rfl, rfl, rfl⟩) ?_
  refine st_q (ok_len (sl rfl) rfl ⟨rfl, rfl, rfl⟩) ?_
  refine st_q (ok_move (v := .int _ _) rfl ⟨rfl, rfl, rfl⟩) ?_
  refine o_nil ?_
  refine n_then (c_block ?_)
  refine c_loop (fun k E h' N' D => D = [] ∧ k ≤ n ∧ h' = h2 ∧ N' = N2 ∧ Fr E [(3, .slice (some ⟨N + 1, 0, none⟩) n n), (13, .slice (some ⟨bs, 0, none⟩) n cc), (14, .int .i64 n), (15, .int .i64 ((n - k : Nat) : Int))]) (k := n) ⟨rfl, Nat.le_refl _, rfl, rfl, rfl, rfl, rfl, by simp [upd], trivial⟩ ?_
  rintro k E h' N' D ⟨rfl, hk, rfl, rfl, hE⟩
  obtain ⟨E0, rfl⟩ := hE.ex
  refine c_seq ?_
  refine c_region (by kernel_rfl) ?_
  refine st_q (ok_lss rfl rfl ⟨rfl, rfl, rfl⟩) ?_
  refine o_nil ?_
  refine n_then (c_seq ?_)
  refine c_cond_prop rfl (fun hc => ?_) (fun hc => ?_)
  · refine c_skip (n_then (c_seq (c_block (c_seq ?_))))
    have hlt : n - k < n := by omega
    refine c_region (by kernel_rfl) ?_
    refine st_q (ok_move (v := .int _ _) rfl ⟨rfl, rfl, rfl⟩) ?_
    refine st_q (ok_indexAddr (sl rfl) (ty rfl) rfl rfl (by omega) (by omega) (off := n - k) (by omega) ⟨rfl, rfl, rfl⟩) ?_
    refine st_q (ok_load (ty rfl) rfl hb2 (hcs _ hlt) ⟨rfl, rfl, rfl⟩) ?_
    refine st_q (ok_assign (v := .int _ _) rfl ⟨rfl, rfl, rfl⟩) ?_
    refine st_q (ok_assign (v := .slice _ _ _) rfl ⟨rfl, rfl, rfl⟩) ?_
    refine o_nil ?_
    refine n_then (c_seq ?_)
    refine c_region (by kernel_rfl) ?_
    refine st_q (ok_move (v := .slice _ _ _) rfl ⟨rfl, rfl, rfl⟩) ?_
    refine st_q (ok_len (sl rfl) rfl ⟨rfl, rfl, rfl⟩) ?_
    refine st_q (ok_move (v := .int _ _) rfl ⟨rfl, rfl, rfl⟩) ?_
    refine o_nil ?_
    refine n_then (c_block (c_loop1 (c_seq ?_)))
    refine c_region (by kernel_rfl) ?_
    refine st_q (ok_lss rfl rfl ⟨rfl, rfl, rfl⟩) ?_
    refine o_nil ?_
    refine n_then (c_seq (c_cond_false rfl (c_exit ?_)))
    refine x_then (x_then (x_block (n_block (n_then ?_))))
    refine c_region (by kernel_rfl) ?_
    refine st_q (ok_add rfl rfl (by omega) (by omega) ⟨rfl, rfl, rfl⟩) ?_
    refine st_q (ok_move (v := .int _ _) rfl ⟨rfl, rfl, rfl⟩) ?_
    refine o_nil ?_
    refine n_then ⟨k - 1, by omega, rfl, by omega, rfl, rfl, rfl, rfl, rfl, ?_, trivial⟩
    show Value.int .i64 (((n - k : Nat) : Int) + 1) = _
    congr 1; omega
  · refine c_exit (x_then (x_then (x_block (n_then (c_seq ?_)))))
    refine c_region (by kernel_rfl) ?_
    refine st_q (ok_move (v := .slice _ _ _) rfl ⟨rfl, rfl, rfl⟩) ?_
    refine st_q (ok_assign (v := .slice _ _ _) rfl ⟨rfl, rfl, rfl⟩) ?_
    refine o_nil ?_
    refine n_then (c_ret ?_)
    exact r_leave (leave_tmp rfl (v := .slice _ _ _) rfl ⟨hx, N + 1, rfl, hp, hfr⟩)
end Sx
end Go.Proofs.YbulkcsqkGreatDoor
