import Derived.Test.YbulkcsqkGreatSxCyc
import Derived.Test.YbulkcsqkGreatSxNewTopo
namespace Go.Proofs.YbulkcsqkGreat
namespace Sx
set_option maxRecDepth 10000
set_option maxHeartbeats 1000000
variable {w0 : World}
section
variable {h : Hp} {N : Nat}
theorem all_of_len {n : Nat} {ord : List Nat} (hnd : ord.Nodup) (hlt : ∀ j, j ∈ ord → j < n) (hl : ord.length = n) {i : Nat} (hi : i < n) : i ∈ ord := by
  apply Classical.byContradiction
  intro hm
  have := nd_sub (L := i :: ord) (n := n) (List.nodup_cons.2 ⟨hm, hnd⟩) (fun x hx => by
    rcases List.mem_cons.1 hx with rfl | h1
    · exact hi
    · exact hlt x h1)
  simp at this; omega
/-- txGraph.sort: an order, or word of a cycle. -/
theorem txsort_ok {an : Option Addr} {n nc bs : Nat} {V : Nat → Value} {S : Nat → List Nat} (hR : Rows h bs n V S) (hSl : ∀ i, i < n → ∀ k, k ∈ S i → k < n) (hSn : ∀ i, i < n → (S i).Nodup) (hn : n ≤ 100) :
    CallsX Ybaz.prog w0 11 #[.agg (gcells an n nc bs)] h N (fun u h' _ => Ext h h' ∧ (((∃ i, i < n ∧ TC S i i) ∧ ∃ a b c, u = .tuple #[.slice none 0 0, .slice (some a) b c]) ∨
      ∃ ord bo co cs, u = .tuple #[.slice (some ⟨bo, 0, none⟩) n co, .slice none 0 0] ∧ h' bo = some (.cells cs 3 (0, 0)) ∧ cs.toList.take (ord.length * 1) = ints ord ∧ ord.length = n ∧ ord.Nodup ∧ (∀ i, i < n → i ∈ ord) ∧ (∀ i, i ∈ ord → i < n) ∧ Tp n S ord)) := by
  refine calls_of Ybaz.func11 rfl Ybaz.ntmps11 (Nat.le_of_ble_eq_true rfl) ?_
  refine c_seq ?_
  refine c_region (by kernel_rfl) ?_
  refine st (ok_box (v := .agg _) rfl rfl (fun hN1 => ?_))
  refine st_q (ok_assign (v := .slice _ _ _) rfl ⟨rfl, rfl, rfl⟩) ?_
  refine st_q (ok_assign (v := .slice _ _ _) rfl ⟨rfl, rfl, rfl⟩) ?_
  refine o_nil ?_
  refine n_then ?_
  have hx1 : Ext h (hset h N (.cells (gcells an n nc bs) 69 (0, 0))) := Ext.push hN1 _
  have g1 := hset_same h N (.cells (gcells an n nc bs) 69 (0, 0))
  refine c_seq ?_
  refine c_region (by kernel_rfl) ?_
  refine st_q (ok_loadAgg (ty rfl) rfl g1 (Nat.le_of_ble_eq_true rfl) rfl ⟨rfl, rfl, rfl⟩) ?_
  refine st (ok_call rfl ent21 (newTopoSort_ok (hR.ext hx1) hSn hSl hn) rfl ?_)
  rintro _ h2 N2 ⟨m, bt, bi, bl, bp, rfl, hS, hts⟩
  refine st (ok_alloc (ty rfl) rfl (fun hN4 => ?_))
  refine st0 (ok_store (ty rfl) rfl (v := .pointer _) rfl rfl (hset_same _ _ _) (Nat.le_of_ble_eq_true rfl) ?_)
  refine o_nil ?_
  refine n_then ?_
  have hS1 := (hS.newX (hN4 _ (Nat.le_refl _)) (.cells #[.pointer none] 92 (0, 0))).setX (hset_same _ _ _) (.cells #[.pointer (some ⟨bt, 0, none⟩)] 92 (0, 0))
  rw [hset_hset (hset h N _)] at hS1
  have hx2 : Ext (hset h N (.cells (gcells an n nc bs) 69 (0, 0))) (hset (hset h N (.cells (gcells an n nc bs) 69 (0, 0))) N2 (.cells #[.pointer (some ⟨bt, 0, none⟩)] 92 (0, 0))) := (Ext.refl _).fresh (hS.oth.back (hN4 _ (Nat.le_refl _))) _
  refine c_heap (fun h' _ => ∃ X, Sep m X h' ∧ Ext h X ∧ X N = some (.cells (gcells an n nc bs) 69 (0, 0)) ∧ X N2 = some (.cells #[.pointer (some ⟨bt, 0, none⟩)] 92 (0, 0))) ⟨_, hS1, hx1.trans hx2, hx2 _ _ g1, hset_same _ _ _⟩ ?_
  clear hS hS1 hx1 hx2 g1
  rintro h3 N3 ⟨X, hS, hX, g1, g4⟩
  refine c_seq ?_
  refine c_seq ?_
  refine c_region (by kernel_rfl) ?_
  refine st_q (ok_load (ty rfl) rfl (hS.oth _ _ g4) rfl ⟨rfl, rfl, rfl⟩) ?_
  refine st (ok_call rfl ent22 (run_ok hS hts (hR.ext hX) hSn hSl (fun k hk => rfl) hn) rfl ?_)
  rintro _ h4 N4 ⟨m4, X4, v4, ord, dg, bo, co, cs, rfl, hS4, hX4, _, hbo, hcs, hlo, htk, hts4, hT⟩
  refine st_q (ok_move (v := .tuple _) rfl ⟨rfl, rfl, rfl⟩) ?_
  refine st_q (ok_extract rfl rfl ⟨rfl, rfl, rfl⟩) ?_
  refine st_q (ok_extract rfl rfl ⟨rfl, rfl, rfl⟩) ?_
  refine st_q (ok_assign (v := .slice _ _ _) rfl ⟨rfl, rfl, rfl⟩) ?_
  refine st_q (ok_assign (v := .bool _) rfl ⟨rfl, rfl, rfl⟩) ?_
  refine o_nil ?_
  refine n_then ?_
  refine c_seq ?_
  refine c_region (by kernel_rfl) ?_
  refine st_q (ok_move (v := .bool _) rfl ⟨rfl, rfl, rfl⟩) ?_
  refine o_nil ?_
  refine n_then ?_
  have hnd : ord.Nodup := by have := hT.nd; rwa [List.append_nil] at this
  have hlt : ∀ j, j ∈ ord → j < n := fun j hj => hT.lt j (by rw [List.append_nil]; exact hj)
  refine c_cond_prop rfl (fun hc => ?_) (fun hc => ?_)
  · skip
    have hl : ord.length = n := by omega
    refine c_seq ?_
    refine c_region (by kernel_rfl) ?_
    refine st_q (ok_move (v := .slice _ _ _) rfl ⟨rfl, rfl, rfl⟩) ?_
    refine st_q (ok_assign (v := .slice _ _ _) rfl ⟨rfl, rfl, rfl⟩) ?_
    refine st_q (ok_assign (v := .slice _ _ _) rfl ⟨rfl, rfl, rfl⟩) ?_
    refine o_nil ?_
    refine n_then ?_
    refine c_ret ?_
    refine r_then (r_leave (leave_tmp2 rfl rfl rfl ⟨(hX.trans hX4).trans hS4.oth, .inr ⟨ord, bo, co, cs, ?_, hS4.oth _ _ hbo, htk, hl, hnd, fun i hi => all_of_len hnd hlt hl hi, hlt, hT.tp⟩⟩))
    rw [← hl]; rfl
  · skip
    have hl : ord.length ≠ n := fun e => hc (by rw [e])
    have hst : ∃ j, j < n ∧ 0 < dg j := by
      apply Classical.byContradiction
      intro hno
      have : ∀ j, j < n → j ∈ ord := fun j hj => by
        apply Classical.byContradiction
        intro hm
        exact hno ⟨j, hj, (hT.stuck hj).2 hm⟩
      have h1 := List.Nodup.length_le_of_subset (List.nodup_range (n := n)) (l₂ := ord) (fun x hx => this x (List.mem_range.1 hx))
      have h2 := nd_sub hnd hlt
      simp at h1
      omega
    refine c_skip ?_
    refine n_then ?_
    refine c_seq ?_
    obtain ⟨ds, d1, d2, d3⟩ := hts4.ind
    have hx4 := hX.trans (hX4.trans hS4.oth)
    refine c_region (by kernel_rfl) ?_
    refine st_q (ok_loadAgg (ty rfl) rfl ((hX4.trans hS4.oth) _ _ g1) (Nat.le_of_ble_eq_true rfl) rfl ⟨rfl, rfl, rfl⟩) ?_
    refine st_q (ok_makeFunc rfl rfl ⟨rfl, rfl, rfl⟩) ?_
    refine st (ok_call rfl ent23 (cycle_ok (hR.ext hx4) hSl hSn hn ((hX4.trans hS4.oth) _ _ g4) (hS4.own _ _ hts4.hp.r) rfl (hS4.own _ _ d1) d3 hst (fun j hj h0 => hT.pred hj h0)) rfl ?_)
    rintro _ h5 N5 ⟨hx5, ⟨a1, b1, c1, rfl⟩, hcy⟩
    refine st_q (ok_assign (v := .slice _ _ _) rfl ⟨rfl, rfl, rfl⟩) ?_
    refine st_q (ok_assign (v := .slice _ _ _) rfl ⟨rfl, rfl, rfl⟩) ?_
    refine o_nil ?_
    refine n_then ?_
    refine c_ret ?_
    exact r_leave (leave_tmp2 rfl rfl rfl ⟨hx4.trans hx5, .inl ⟨hcy, a1, b1, c1, rfl⟩⟩)
end
end Sx
end Go.Proofs.YbulkcsqkGreat
