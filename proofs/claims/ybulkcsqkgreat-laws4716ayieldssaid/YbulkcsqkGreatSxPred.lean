import Derived.Test.YbulkcsqkGreatSxNewTopo
namespace Go.Proofs.YbulkcsqkGreat
namespace Sx
set_option maxRecDepth 10000
set_option maxHeartbeats 1000000
variable {w0 : World}

/-- The nodes below i that have an edge to j. -/
def Pl (S : Nat → List Nat) (i j : Nat) : List Nat := (List.range i).filter (fun k => decide (j ∈ S k))
theorem Pl_succ (S : Nat → List Nat) (i j : Nat) : Pl S (i + 1) j = Pl S i j ++ (if j ∈ S i then [i] else []) := by
  unfold Pl
  rw [List.range_succ, List.filter_append]
  congr 1
  by_cases h : j ∈ S i <;> simp [h]
theorem mem_Pl {S : Nat → List Nat} {n j k : Nat} : k ∈ Pl S n j ↔ k < n ∧ j ∈ S k := by simp [Pl]
theorem Pl_nodup (S : Nat → List Nat) (n j : Nat) : (Pl S n j).Nodup := List.Nodup.sublist List.filter_sublist List.nodup_range
theorem Pl_len (S : Nat → List Nat) (i j : Nat) : (Pl S i j).length ≤ i := by
  have := List.length_filter_le (fun k => decide (j ∈ S k)) (List.range i)
  rw [List.length_range] at this
  exact this
theorem take_nodup {l : List Nat} (hn : l.Nodup) {p : Nat} (hp : p < l.length) : l[p] ∉ l.take p ∧ l.take (p + 1) = l.take p ++ [l[p]] := by
  constructor
  · intro hm
    obtain ⟨k', hk', he⟩ := List.getElem_of_mem hm
    rw [List.getElem_take] at he
    have hk2 : k' < p := by simp at hk'; omega
    exact List.pairwise_iff_getElem.1 hn k' p (by omega) hp hk2 he
  · rw [List.take_add_one, List.getElem?_eq_getElem hp]; rfl

section
variable {h : Hp} {N n nc bs : Nat} {an : Option Addr} {S : Nat → List Nat} {V : Nat → Value}

theorem pred_ok (hG : Rows h bs n V S) (hSn : ∀ i, i < n → (S i).Nodup) (hSl : ∀ i, i < n → ∀ k, k ∈ S i → k < n) (hn : n ≤ 100) :
    CallsX Ybaz.prog w0 25 #[.agg (gcells an n nc bs)] h N (fun u h' _ => ∃ m bq V', u = .slice (some ⟨bq, 0, none⟩) n n ∧ Sep m h h' ∧ Rows m bq n V' (fun j => Pl S n j)) := by
  refine calls_of Ybaz.func25 rfl Ybaz.ntmps25 (Nat.le_of_ble_eq_true rfl) ?_
  obtain ⟨vs, r1, r2, r3⟩ := hG.top
  refine c_seq ?_
  refine c_region (by kernel_rfl) ?_
  refine st (ok_box (v := .agg _) rfl rfl (fun hN1 => ?_))
  refine st_q (ok_assign (v := .slice _ _ _) rfl ⟨rfl, rfl, rfl⟩) ?_
  refine o_nil ?_
  refine n_then ?_
  refine c_seq ?_
  refine c_region (by kernel_rfl) ?_
  refine st_q (ok_fieldAddr (fld rfl) rfl ⟨rfl, rfl, rfl⟩) ?_
  refine st_q (ok_load (ty rfl) rfl (hset_same _ _ _) (by rfl) ⟨rfl, rfl, rfl⟩) ?_
  refine st_q (ok_len (sl rfl) rfl ⟨rfl, rfl, rfl⟩) ?_
  refine st (ok_makeSlice (sl rfl) (ty rfl) rfl rfl (by omega) (by omega) (by omega) (by omega) (l' := n) (c' := n) (by omega) (by omega) (fun hN11 => ?_))
  refine st_q (ok_assign (v := .slice _ _ _) rfl ⟨rfl, rfl, rfl⟩) ?_
  refine o_nil ?_
  have hS := ((Sep.start h).push hN1 (.cells (gcells an n nc bs) 69 (0, 0))).push hN11 (.cells (madeCells #[.slice none 0 0] (n * 1)) 34 (0, 0))
  refine n_then ?_
  refine c_seq ?_
  refine c_seq ?_
  refine c_heap (fun h' _ => ∃ m V', Sep m h h' ∧ m N = some (.cells (gcells an n nc bs) 69 (0, 0)) ∧ Rows m (N + 1) n V' (fun j => [])) ⟨_, fun _ => .slice none 0 0, hS, (hset_ne _ _ (by omega)).trans (hset_same _ _ _), ⟨⟨_, hset_same _ _ _, made_size, made_get⟩, fun _ _ => .inl ⟨rfl, rfl⟩, fun _ _ _ _ _ e => by cases e⟩⟩ ?_
  clear hS
  rintro h1 N1 ⟨m1, V1, hS, g1, hRw⟩
  refine c_region (by kernel_rfl) ?_
  refine st_q (ok_fieldAddr (fld rfl) rfl ⟨rfl, rfl, rfl⟩) ?_
  refine st_q (ok_load (ty rfl) rfl (hS.own _ _ g1) (by rfl) ⟨rfl, rfl, rfl⟩) ?_
  refine st_q (ok_len (sl rfl) rfl ⟨rfl, rfl, rfl⟩) ?_
  refine st_q (ok_move (v := .int _ _) rfl ⟨rfl, rfl, rfl⟩) ?_
  refine o_nil ?_
  refine n_then ?_
  refine c_block ?_
  refine c_loop (fun k E h' _ D => D = [] ∧ k ≤ n ∧ Fr E [(3, .slice (some ⟨N + 1, 0, none⟩) n n), (13, .slice (some ⟨bs, 0, none⟩) n n), (14, .int .i64 (n : Int)), (15, .int .i64 ((n - k : Nat) : Int))] ∧ ∃ m V', Sep m h h' ∧ Rows m (N + 1) n V' (fun j => Pl S (n - k) j)) (k := n) ⟨rfl, Nat.le_refl _, ⟨rfl, rfl, rfl, by simp [upd], trivial⟩, m1, V1, hS, by rw [Nat.sub_self]; exact hRw⟩ ?_
  clear hS g1 hRw
  rintro k E h3 N3 D ⟨rfl, hk, hE, m3, V3, hS, hRw⟩
  obtain ⟨E1, rfl⟩ := hE.ex
  refine c_seq ?_
  refine c_region (by kernel_rfl) ?_
  refine st_q (ok_lss rfl rfl ⟨rfl, rfl, rfl⟩) ?_
  refine o_nil ?_
  refine n_then ?_
  refine c_seq ?_
  refine c_cond_prop rfl (fun hc => ?_) (fun hc => ?_)
  · skip
    generalize hi : n - k = i at *
    have hin : i < n := by omega
    obtain ⟨ai, ci, hVi, hci, hrow⟩ := (hG.own i hin).row
    have gvi := (r3 i hin).trans (congrArg some hVi)
    have hSi : (S i).length ≤ 100 := Nat.le_trans (nd_len (hSn i hin) (hSl i hin)) hn
    refine c_skip ?_
    refine n_then ?_
    refine c_seq ?_
    refine c_block ?_
    refine c_seq ?_
    refine c_region (by kernel_rfl) ?_
    refine st_q (ok_move (v := .int _ _) rfl ⟨rfl, rfl, rfl⟩) ?_
    refine st_q (ok_indexAddr (sl rfl) (ty rfl) rfl rfl (by omega) (by omega) (off := i) (by omega) ⟨rfl, rfl, rfl⟩) ?_
    refine st_q (ok_load (ty rfl) rfl (hS.oth _ _ r1) gvi ⟨rfl, rfl, rfl⟩) ?_
    refine st_q (ok_assign (v := .int _ _) rfl ⟨rfl, rfl, rfl⟩) ?_
    refine st_q (ok_assign (v := .slice _ _ _) rfl ⟨rfl, rfl, rfl⟩) ?_
    refine o_nil ?_
    refine n_then ?_
    refine c_seq ?_
    refine c_region (by kernel_rfl) ?_
    refine st_q (ok_move (v := .slice _ _ _) rfl ⟨rfl, rfl, rfl⟩) ?_
    refine st_q (ok_len (sl rfl) rfl ⟨rfl, rfl, rfl⟩) ?_
    refine st_q (ok_move (v := .int _ _) rfl ⟨rfl, rfl, rfl⟩) ?_
    refine o_nil ?_
    refine n_then ?_
    refine c_block ?_
    refine c_loop (fun q E h' _ D => D = [] ∧ q ≤ (S i).length ∧ Fr E [(3, .slice (some ⟨N + 1, 0, none⟩) n n), (4, .int .i64 (i : Int)), (13, .slice (some ⟨bs, 0, none⟩) n n), (14, .int .i64 (n : Int)), (15, .int .i64 (i : Int)), (20, .slice ai (S i).length ci), (21, .int .i64 ((S i).length : Int)), (22, .int .i64 (((S i).length - q : Nat) : Int))] ∧ ∃ m V', Sep m h h' ∧ Rows m (N + 1) n V' (fun j => Pl S i j ++ if j ∈ (S i).take ((S i).length - q) then [i] else [])) (k := (S i).length) ⟨rfl, Nat.le_refl _, ⟨rfl, rfl, rfl, rfl, rfl, rfl, rfl, by simp [upd], trivial⟩, m3, V3, hS, by simpa using hRw⟩ ?_
    clear hS hRw
    rintro q E h4 N4 D ⟨rfl, hq, hE, m4, V4, hS, hRw⟩
    obtain ⟨E2, rfl⟩ := hE.ex
    refine c_seq ?_
    refine c_region (by kernel_rfl) ?_
    refine st_q (ok_lss rfl rfl ⟨rfl, rfl, rfl⟩) ?_
    refine o_nil ?_
    refine n_then ?_
    refine c_seq ?_
    refine c_cond_prop rfl (fun hc2 => ?_) (fun hc2 => ?_)
    · skip
      generalize hp : (S i).length - q = p at *
      have hpS : p < (S i).length := by omega
      have gp : (S i)[p]? = some ((S i)[p]) := List.getElem?_eq_getElem hpS
      obtain ⟨rb, rcs, rfl, hrb, hrv⟩ := hrow p _ gp
      have hjn : (S i)[p] < n := hSl i hin _ (List.getElem_mem hpS)
      obtain ⟨hnot, htake⟩ := take_nodup (hSn i hin) hpS
      obtain ⟨us, u1, u2, u3⟩ := hRw.top
      refine c_skip ?_
      refine n_then ?_
      refine c_seq ?_
      refine c_block ?_
      refine c_seq ?_
      refine c_region (by kernel_rfl) ?_
      refine st_q (ok_indexAddr (sl rfl) (ty rfl) rfl rfl (by omega) (by omega) (off := p) (by omega) ⟨rfl, rfl, rfl⟩) ?_
      refine st_q (ok_load (ty rfl) rfl (hS.oth _ _ hrb) hrv ⟨rfl, rfl, rfl⟩) ?_
      refine st_q (ok_assign (v := .int _ _) rfl ⟨rfl, rfl, rfl⟩) ?_
      refine o_nil ?_
      refine n_then ?_
      generalize hjj : (S i)[p] = j at *
      have own := (hRw.own j hjn).ext hS.own
      have hnw := hset_same h4 N4 (.cells #[.int .i64 (i : Int)] 3 (0, 0))
      have hll : (ints (Pl S i j ++ if j ∈ (S i).take p then [i] else [])).length ≤ 200 := by
        have := Pl_len S i j
        rw [if_neg hnot]; simp only [ints, List.length_map, List.append_nil]; omega
      refine c_region (by kernel_rfl) ?_
      refine st_q (ok_move (v := .slice _ _ _) rfl ⟨rfl, rfl, rfl⟩) ?_
      refine st_q (ok_move (v := .int _ _) rfl ⟨rfl, rfl, rfl⟩) ?_
      refine st_q (ok_move (v := .slice _ _ _) rfl ⟨rfl, rfl, rfl⟩) ?_
      refine st_q (ok_move (v := .int _ _) rfl ⟨rfl, rfl, rfl⟩) ?_
      refine st_q (ok_indexAddr (sl rfl) (ty rfl) rfl rfl (by omega) (by omega) (off := j) (by omega) ⟨rfl, rfl, rfl⟩) ?_
      refine st_q (ok_load (ty rfl) rfl (hS.own _ _ u1) (u3 j hjn) ⟨rfl, rfl, rfl⟩) ?_
      refine st_q (ok_move (v := .int _ _) rfl ⟨rfl, rfl, rfl⟩) ?_
      refine st (ok_buildSlice (sl rfl) (ty rfl) rfl (vs := #[.int .i64 (i : Int)]) (by kernel_rfl) (by decide) (by decide) (fun hN33 => ?_))
      refine st (ok_append rfl (sl rfl) (ty rfl) rfl rfl (own.ext (Ext.push hN33 _)) rfl hnw (Nat.le_of_ble_eq_true rfl) (by simp [isOne]) (by decide) (by decide) (by omega) (by omega) (fun b' n' c' cs' N5 hcase hcz hnc hln htk hnq => ?_)); have hG5 : Grown _ _ b' N5 3 (V4 j) := hcase; have hS5 := hS.fresh (hN33 _ (Nat.le_refl _)) (.cells #[.int .i64 (i : Int)] 3 (0, 0)); have hS6 := grow_sep hS5 hRw hjn hG5 (.cells cs' 3 (0, 0)); have gt6 := grow_ne (o := .cells cs' 3 (0, 0)) hRw hjn (hG5.or hS5.own) u1 rfl
      refine st_q (ok_indexAddr (sl rfl) (ty rfl) rfl rfl (by omega) (by omega) (off := j) (by omega) ⟨rfl, rfl, rfl⟩) ?_
      refine st0 (ok_store (ty rfl) rfl (v := .slice _ _ _) rfl rfl (hS6.own _ _ gt6) (by omega) ?_)
      refine o_nil ?_
      obtain ⟨m7, V7, hS7, hRw7, _⟩ := rows_app hS5 hRw hjn hG5 hcz hnc hln htk u1
      refine n_block (n_then ?_)
      refine c_region (by kernel_rfl) ?_
      refine st_q (ok_add rfl rfl (by omega) (by omega) ⟨rfl, rfl, rfl⟩) ?_
      refine st_q (ok_move (v := .int _ _) rfl ⟨rfl, rfl, rfl⟩) ?_
      refine o_nil ?_
      have hp1 : (S i).length - (q - 1) = p + 1 := by omega
      refine n_then ⟨q - 1, by omega, rfl, by omega, ⟨rfl, rfl, rfl, rfl, rfl, rfl, rfl, ?_, trivial⟩, m7, V7, hS7, ?_⟩
      · rw [hp1]; rfl
      · have e : (fun y => Pl S i y ++ if y ∈ (S i).take ((S i).length - (q - 1)) then [i] else []) = ap (fun y => Pl S i y ++ if y ∈ (S i).take p then [i] else []) j i := by
          funext y
          rw [hp1, htake]
          by_cases ey : y = j
          · subst ey
            simp only [ap, if_true]
            rw [if_neg hnot, if_pos (by simp)]; simp
          · simp only [ap, ey, if_false]
            congr 1
            simp [ey]
        rw [e]; exact hRw7
    · skip
      obtain rfl : q = 0 := by omega
      refine c_exit ?_
      refine x_then (x_then (x_block (n_block (n_then ?_))))
      refine c_region (by kernel_rfl) ?_
      refine st_q (ok_add rfl rfl (by omega) (by omega) ⟨rfl, rfl, rfl⟩) ?_
      refine st_q (ok_move (v := .int _ _) rfl ⟨rfl, rfl, rfl⟩) ?_
      refine o_nil ?_
      have hi1 : n - (k - 1) = i + 1 := by omega
      refine n_then ⟨k - 1, by omega, rfl, by omega, ⟨rfl, rfl, rfl, ?_, trivial⟩, m4, V4, hS, ?_⟩
      · rw [hi1]; rfl
      · have e : (fun j => Pl S (n - (k - 1)) j) = (fun j => Pl S i j ++ if j ∈ (S i).take ((S i).length - 0) then [i] else []) := by
          funext j
          rw [hi1, Pl_succ, Nat.sub_zero, List.take_length]
        rw [e]; exact hRw
  · skip
    obtain rfl : k = 0 := by omega
    refine c_exit ?_
    refine x_then (x_then (x_block (n_then ?_)))
    refine c_seq ?_
    refine c_region (by kernel_rfl) ?_
    refine st_q (ok_move (v := .slice _ _ _) rfl ⟨rfl, rfl, rfl⟩) ?_
    refine st_q (ok_assign (v := .slice _ _ _) rfl ⟨rfl, rfl, rfl⟩) ?_
    refine o_nil ?_
    refine n_then ?_
    refine c_ret ?_
    exact r_leave (leave_tmp rfl rfl ⟨m3, N + 1, V3, rfl, hS, hRw⟩)
end
end Sx
end Go.Proofs.YbulkcsqkGreat
