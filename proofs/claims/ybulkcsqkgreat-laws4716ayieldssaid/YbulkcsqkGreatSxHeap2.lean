import Derived.Test.YbulkcsqkGreatSxHeap
namespace Go.Proofs.YbulkcsqkGreat
namespace Sx
set_option maxRecDepth 10000
variable {w0 : World}

theorem u97 : Ybaz.prog.underlying 97 = some (.slice 3) := by kernel_rfl

section
variable {h m X : Hp} {N br o x : Nat} {cs : Array Value} {te : TypeId} {v : Value} {xs : List Nat}

theorem HP.grow {b' n' c' N1 N2 : Nat} {h1 : Hp} {cs' : Array Value} {y : Nat} (hS : Sep m X h1) (hp : HP m br o cs te v xs) (hG : Grown h1 N1 b' N2 3 v) (hs : cs'.size = c' * 1) (hn : n' ≤ c') (hl : (ints xs ++ [Value.int .i64 (y : Int)]).length = n' * 1) (ht : cs'.toList.take (n' * 1) = ints xs ++ [Value.int .i64 (y : Int)]) :
    Sep (hset (hset m b' (.cells cs' 3 (0, 0))) br (.cells (setA cs o (.slice (some ⟨b', 0, none⟩) n' c')) te (0, 0))) X (hset (hset h1 b' (.cells cs' 3 (0, 0))) br (.cells (setA cs o (.slice (some ⟨b', 0, none⟩) n' c')) te (0, 0))) ∧ br ≠ b' ∧
    HP (hset (hset m b' (.cells cs' 3 (0, 0))) br (.cells (setA cs o (.slice (some ⟨b', 0, none⟩) n' c')) te (0, 0))) br o (setA cs o (.slice (some ⟨b', 0, none⟩) n' c')) te (.slice (some ⟨b', 0, none⟩) n' c') (xs ++ [y]) ∧
    Kp m br v (hset (hset m b' (.cells cs' 3 (0, 0))) br (.cells (setA cs o (.slice (some ⟨b', 0, none⟩) n' c')) te (0, 0))) (.slice (some ⟨b', 0, none⟩) n' c') := by
  have hor := hG.or hS.own
  have hne : br ≠ b' := by
    rcases hor with ⟨_, h2⟩ | h2
    · exact ne_of_none hp.r h2
    · intro e; rw [← e] at h2; exact hp.nbr h2
  have hS2 : Sep (hset m b' (.cells cs' 3 (0, 0))) X (hset h1 b' (.cells cs' 3 (0, 0))) := by
    rcases hor with ⟨h1', _⟩ | h2
    · exact hS.new h1' _
    · obtain ⟨c2, hc2⟩ := hp.own.at h2; exact hS.set hc2 _
  have hr2 : (hset m b' (.cells cs' 3 (0, 0))) br = some (.cells cs te (0, 0)) := (hset_ne _ _ hne).trans hp.r
  have ho : o < cs.size := (Array.getElem?_eq_some_iff.1 hp.f).1
  have e : ints (xs ++ [y]) = ints xs ++ [Value.int .i64 (y : Int)] := by simp [ints]
  refine ⟨hS2.set hr2 _, hne, ⟨hset_same _ _ _, setA_same _ _ ho, ?_, hp.te⟩, ⟨fun c q hc h3 h4 => ?_, fun c q hc h4 => ?_⟩⟩
  · exact .inr ⟨b', n', c', cs', rfl, (hset_ne _ _ hne.symm).trans (hset_same _ _ _), hs, hn, by rw [e]; exact hl, by rw [e]; exact ht⟩
  · rw [hset_ne _ _ h3, hset_ne]
    · exact hc
    · rcases hor with ⟨_, h2⟩ | h2
      · exact ne_of_none hc h2
      · intro e2; rw [e2] at h4; exact h4 h2
  · intro e2
    cases e2
    rcases hor with ⟨_, h2⟩ | h2
    · rw [h2] at hc; cases hc
    · exact h4 h2

theorem mpush_ok (hS : Sep m X h) (hp : HP m br o cs te v xs) (hl : xs.length ≤ 1000) :
    CallsX Ybaz.prog w0 122 #[.pointer (some ⟨br, o, none⟩), .iface 3 (.int .i64 (x : Int))] h N (fun u h' _ => u = .tuple #[] ∧ ∃ m' v', Sep m' X h' ∧ HP m' br o (setA cs o v') te v' (xs ++ [x]) ∧ Kp m br v m' v') := by
  refine calls_of Ybaz.func122 rfl Ybaz.ntmps122 (Nat.le_of_ble_eq_true rfl) ?_
  have hr := hS.own _ _ hp.r
  have own := hp.own.ext hS.own
  have ho : o < cs.size := (Array.getElem?_eq_some_iff.1 hp.f).1
  have hll : (ints xs).length ≤ 1000 := by simp only [ints, List.length_map]; omega
  refine c_draw mixed [0, 0, 0, 0, 0, 0, 1, 2, 0, 2] 10 rfl [((0, 2), [((1, 2), [((2, 2), [((3, 1), [((4, 2), [((5, 1), [((6, 0), [((7, 0), [((8, 2), [((9, 0), ())])])])])])])])])])] (by kernel_rfl) (by kernel_rfl) ?_
  refine w_p rfl (fun _ _ => ok_move (v := .pointer _) rfl ⟨rfl, rfl, rfl⟩) ?_
  refine w_p rfl (fun _ _ => ok_move (v := .pointer _) rfl ⟨rfl, rfl, rfl⟩) ?_
  refine w_p rfl (fun _ _ => ok_nilCheck_ptr rfl ⟨rfl, rfl, rfl⟩) ?_
  refine w_r rfl (fun _ _ hExt => ok_load (ty rfl) rfl (hExt _ _ hr) hp.f ⟨rfl, rfl, rfl⟩) ?_
  refine w_p rfl (fun _ _ => ok_move (v := _) rfl ⟨rfl, rfl, rfl⟩) ?_
  refine w_r rfl (fun _ _ hExt => ok_typeAssert u3 (by intro ms e; cases e) rfl ⟨rfl, rfl, rfl⟩) ?_
  refine w_e rfl (ok_buildSlice (sl rfl) (ty rfl) rfl (vs := #[.int .i64 (x : Int)]) (by kernel_rfl) (by decide) (by decide) (fun hN10 => ⟨.inr ⟨_, rfl, rfl⟩, ?_⟩))
  have hS := hS.fresh (hN10 _ (Nat.le_refl _)) (.cells #[.int .i64 (x : Int)] 3 (0, 0))
  have hr := hS.own _ _ hp.r
  have own := hp.own.ext hS.own
  have hnw := hset_same h N (.cells #[.int .i64 (x : Int)] 3 (0, 0))
  refine w_e rfl (ok_append rfl (sl rfl) (ty rfl) rfl rfl own rfl hnw (Nat.le_of_ble_eq_true rfl) (by simp [isOne]) (by decide) (by decide) (by omega) (by omega) (fun b' n' c' cs' N3 hcase hcz hnc hln htk _ => ⟨trivial, ?_⟩)); obtain ⟨hS3, hne3, hp3, hk3⟩ := HP.grow hS hp (N1 := N + 1) hcase hcz hnc hln htk; have hr := (hset_ne _ (.cells cs' 3 (0, 0)) hne3).trans hr
  refine w_p rfl (fun _ _ => ok_nilCheck_ptr rfl ⟨rfl, rfl, rfl⟩) ?_
  refine w_e0 rfl (ok_store (ty rfl) rfl (v := .slice _ _ _) rfl rfl hr (by omega) ⟨trivial, ?_⟩)
  refine w_nil ?_
  exact n_leave (leave_none rfl ⟨rfl, _, _, hS3, hp3, hk3⟩)

theorem mpop_ok (hS : Sep m X h) (hp : HP m br o cs te v xs) (hx : xs[xs.length - 1]? = some x) (hl : xs.length ≤ 1000) :
    CallsX Ybaz.prog w0 121 #[.pointer (some ⟨br, o, none⟩)] h N (fun u h' _ => u = .iface 3 (.int .i64 (x : Int)) ∧ ∃ m' v', Sep m' X h' ∧ HP m' br o (setA cs o v') te v' xs.dropLast ∧ Kp m br v m' v') := by
  have hpos : 0 < xs.length := by have := (List.getElem?_eq_some_iff.1 hx).1; omega
  have ho : o < cs.size := (Array.getElem?_eq_some_iff.1 hp.f).1
  rcases hp.own with ⟨h1, h2⟩ | ⟨b, n, c, rs, rfl, h2, h3, h4, h5, h6⟩
  · have : xs = [] := by simpa [ints] using h2
    subst this; simp at hpos
  have hn : n = xs.length := by simpa [ints] using h5.symm
  subst hn
  have hr := hS.own _ _ hp.r
  have hb := hS.own _ _ h2
  have hg : rs[xs.length - 1]? = some (.int .i64 (x : Int)) := by
    have e : (rs.toList.take (xs.length * 1))[xs.length - 1]? = (ints xs)[xs.length - 1]? := by rw [h6]
    rw [List.getElem?_take, if_pos (by omega)] at e
    rw [← Array.getElem?_toList, e]
    simp [ints, hx]
  refine calls_of Ybaz.func121 rfl Ybaz.ntmps121 (Nat.le_of_ble_eq_true rfl) ?_
  refine c_seq ?_
  refine c_region (by kernel_rfl) ?_
  refine st_q (ok_assign (v := .nilIface) rfl ⟨rfl, rfl, rfl⟩) ?_
  refine o_nil ?_
  refine n_then ?_
  refine c_seq ?_
  refine c_region (by kernel_rfl) ?_
  refine st_q (ok_move (v := .pointer _) rfl ⟨rfl, rfl, rfl⟩) ?_
  refine st_q (ok_nilCheck_ptr rfl ⟨rfl, rfl, rfl⟩) ?_
  refine st_q (ok_load (ty rfl) rfl hr hp.f ⟨rfl, rfl, rfl⟩) ?_
  refine st_q (ok_assign (v := .slice _ _ _) rfl ⟨rfl, rfl, rfl⟩) ?_
  refine o_nil ?_
  refine n_then ?_
  refine c_seq ?_
  refine c_region (by kernel_rfl) ?_
  refine st_q (ok_move (v := .slice _ _ _) rfl ⟨rfl, rfl, rfl⟩) ?_
  refine st_q (ok_move (v := .slice _ _ _) rfl ⟨rfl, rfl, rfl⟩) ?_
  refine st_q (ok_len (sl rfl) rfl ⟨rfl, rfl, rfl⟩) ?_
  refine st_q (ok_sub rfl rfl (by omega) (by omega) ⟨rfl, rfl, rfl⟩) ?_
  refine st_q (ok_indexAddr (sl rfl) (ty rfl) rfl rfl (by omega) (by omega) (off := (xs.length - 1)) (by omega) ⟨rfl, rfl, rfl⟩) ?_
  refine st_q (ok_load (ty rfl) rfl hb hg ⟨rfl, rfl, rfl⟩) ?_
  refine st_q (ok_assign (v := .int _ _) rfl ⟨rfl, rfl, rfl⟩) ?_
  refine o_nil ?_
  refine n_then ?_
  refine c_seq ?_
  have e1 : ((xs.length : Int) - 1).toNat = xs.length - 1 := by omega
  refine c_region (by kernel_rfl) ?_
  refine st_q (ok_move (v := .pointer _) rfl ⟨rfl, rfl, rfl⟩) ?_
  refine st_q (ok_move (v := .slice _ _ _) rfl ⟨rfl, rfl, rfl⟩) ?_
  refine st_q (ok_move (v := .slice _ _ _) rfl ⟨rfl, rfl, rfl⟩) ?_
  refine st_q (ok_len (sl rfl) rfl ⟨rfl, rfl, rfl⟩) ?_
  refine st_q (ok_sub rfl rfl (by omega) (by omega) ⟨rfl, rfl, rfl⟩) ?_
  refine st_q (ok_slice_hi (sl rfl) (ty rfl) rfl rfl (by omega) (by omega) ⟨rfl, rfl, rfl⟩) ?_
  refine st_q (ok_nilCheck_ptr rfl ⟨rfl, rfl, rfl⟩) ?_
  refine st0 (ok_store (ty rfl) rfl (v := .slice _ _ _) rfl rfl hr (by omega) ?_)
  refine o_nil ?_
  refine n_then ?_
  refine c_seq ?_
  refine c_region (by kernel_rfl) ?_
  refine st_q (ok_move (v := .int _ _) rfl ⟨rfl, rfl, rfl⟩) ?_
  refine st_q (ok_makeInterface u3 (by intro ms e; cases e) rfl ⟨rfl, rfl, rfl⟩) ?_
  refine st_q (ok_assign (v := .iface _ _) rfl ⟨rfl, rfl, rfl⟩) ?_
  refine o_nil ?_
  refine n_then ?_
  refine c_ret ?_
  have hbr : b ≠ br := fun e => hp.nbr (by rw [← e]; rfl)
  refine r_leave (leave_tmp rfl rfl ⟨rfl, _, .slice (some ⟨b, 0, none⟩) (xs.length - 1) c, ?_, ⟨hset_same _ _ _, setA_same _ _ ho, ?_, hp.te⟩, ⟨fun c' q hc h3 h4 => (hset_ne _ _ h3).trans hc, fun c' q hc h4 e => h4 (by cases e; rfl)⟩⟩)
  · have := hS.set hp.r (.cells (setA cs o (.slice (some ⟨b, 0, none⟩) (xs.length - 1) c)) te (0, 0))
    rw [← e1] at this ⊢
    exact this
  · refine .inr ⟨b, xs.length - 1, c, rs, rfl, (hset_ne _ _ hbr).trans h2, h3, by omega, by simp [ints], ?_⟩
    have h7 : (rs.toList.take (xs.length * 1)).take ((xs.length - 1) * 1) = (ints xs).take ((xs.length - 1) * 1) := by rw [h6]
    rw [List.take_take, Nat.min_eq_left (by omega)] at h7
    rw [h7, List.dropLast_eq_take, Nat.mul_one]
    simp [ints]

/-- container/heap.Push on it: one number more. -/
theorem heapPush_ok (hS : Sep m X h) (hp : HP m br o cs te v xs) (hl : xs.length ≤ 900) :
    CallsX Ybaz.prog w0 38 #[hif br o, .iface 3 (.int .i64 (x : Int))] h N (fun u h' _ => u = .tuple #[] ∧ ∃ m' v' ys, Sep m' X h' ∧ HP m' br o (setA cs o v') te v' ys ∧ ys.Perm (x :: xs) ∧ Kp m br v m' v') := by
  refine calls_of Ybaz.func38 rfl Ybaz.ntmps38 (Nat.le_of_ble_eq_true rfl) ?_
  refine c_seq ?_
  refine c_region (by kernel_rfl) ?_
  refine st_q (ok_move (v := _) rfl ⟨rfl, rfl, rfl⟩) ?_
  refine st_q (ok_move (v := _) rfl ⟨rfl, rfl, rfl⟩) ?_
  refine st (ok_invoke_ptr rfl methPush ptr120 ent122 (mpush_ok hS hp (by omega)) rfl ?_); rintro _ h1 N1 ⟨rfl, m1, v1, hS1, hp1, hk1⟩; refine o_nil ?_
  refine n_then ?_
  have hr1 := hS1.own _ _ hp1.r
  have hlen : (xs ++ [x]).length = xs.length + 1 := by simp
  refine c_region (by kernel_rfl) ?_
  refine st_q (ok_move (v := _) rfl ⟨rfl, rfl, rfl⟩) ?_
  refine st_q (ok_move (v := _) rfl ⟨rfl, rfl, rfl⟩) ?_
  refine st (ok_invoke_val rfl methLen ptr120 (ty rfl) hr1 hp1.f ent39 (hlen_ok (hp1.own.ext hS1.own)) rfl ?_); rintro _ h2 N2 ⟨rfl, rfl, rfl⟩
  refine st_q (v := .int .i64 ((xs.length : Nat) : Int)) (ok_sub rfl rfl (by omega) (by omega) ⟨by rw [hlen]; congr 1; omega, rfl, rfl⟩) ?_
  refine st (ok_call rfl ent71 (up_ok hS1 hp1 (by omega) (by omega)) rfl ?_)
  rintro _ h3 N3 ⟨rfl, m3, ys, hS3, hys, hown3, hkeep3⟩
  refine o_nil ?_
  refine n_leave (leave_none rfl ⟨rfl, m3, v1, ys, hS3, ⟨(hkeep3 br hp1.nbr).trans hp1.r, hp1.f, hown3, hp1.te⟩, ?_, ?_⟩)
  · exact hys.trans List.perm_append_comm
  · exact hk1.trans ⟨fun c q hc _ hv => (hkeep3 c hv).trans hc, fun c q hc hv => hv⟩ ⟨_, hp1.r⟩

/-- container/heap.Pop on it: some number less. -/
theorem heapPop_ok (hS : Sep m X h) (hp : HP m br o cs te v xs) (hpos : 0 < xs.length) (hl : xs.length ≤ 1000) :
    CallsX Ybaz.prog w0 40 #[hif br o] h N (fun u h' _ => ∃ x m' v' ys, u = .iface 3 (.int .i64 ((x : Nat) : Int)) ∧ Sep m' X h' ∧ HP m' br o (setA cs o v') te v' ys ∧ (x :: ys).Perm xs ∧ Kp m br v m' v') := by
  refine calls_of Ybaz.func40 rfl Ybaz.ntmps40 (Nat.le_of_ble_eq_true rfl) ?_
  have hr := hS.own _ _ hp.r
  refine c_seq ?_
  refine c_region (by kernel_rfl) ?_
  refine st_q (ok_assign (v := .nilIface) rfl ⟨rfl, rfl, rfl⟩) ?_
  refine o_nil ?_
  refine n_then ?_
  refine c_seq ?_
  refine c_region (by kernel_rfl) ?_
  refine st_q (ok_move (v := _) rfl ⟨rfl, rfl, rfl⟩) ?_
  refine st (ok_invoke_val rfl methLen ptr120 (ty rfl) hr hp.f ent39 (hlen_ok (hp.own.ext hS.own)) rfl ?_); rintro _ h2 N2 ⟨rfl, rfl, rfl⟩
  refine st_q (v := .int .i64 ((xs.length - 1 : Nat) : Int)) (ok_sub rfl rfl (by omega) (by omega) ⟨by congr 1; omega, rfl, rfl⟩) ?_
  refine st_q (ok_assign (v := .int _ _) rfl ⟨rfl, rfl, rfl⟩) ?_
  refine o_nil ?_
  refine n_then ?_
  refine c_seq ?_
  refine c_region (by kernel_rfl) ?_
  refine st_q (ok_move (v := _) rfl ⟨rfl, rfl, rfl⟩) ?_
  refine st_q (ok_move (v := .int _ _) rfl ⟨rfl, rfl, rfl⟩) ?_
  refine st (ok_invoke_val rfl methSwap ptr120 (ty rfl) hr hp.f ent118 (swap_ok (i := 0) (j := xs.length - 1) hS hp.own (by omega) (by omega)) rfl ?_); rintro _ h3 N3 ⟨rfl, rfl, m3, hS3, hown3, hkeep3⟩; refine o_nil ?_
  have hp3 : HP m3 br o cs te v (swapL xs 0 (xs.length - 1)) := ⟨(hkeep3 br hp.nbr).trans hp.r, hp.f, hown3, hp.te⟩
  have hpm3 : (swapL xs 0 (xs.length - 1)).Perm xs := swapL_perm (by omega) (by omega)
  have hl3 := hpm3.length_eq
  refine n_then ?_
  refine c_seq ?_
  refine c_region (by kernel_rfl) ?_
  refine st_q (ok_move (v := _) rfl ⟨rfl, rfl, rfl⟩) ?_
  refine st_q (ok_move (v := .int _ _) rfl ⟨rfl, rfl, rfl⟩) ?_
  refine st (ok_call rfl ent72 (down_ok (n := xs.length - 1) hS3 hp3 (by omega) (by omega)) rfl ?_)
  rintro _ h4 N4 ⟨m4, ys, hS4, hys, hown4, hkeep4, hback4⟩
  refine o_nil ?_
  have hp4 : HP m4 br o cs te v ys := ⟨(hkeep4 br hp.nbr).trans hp3.r, hp.f, hown4, hp.te⟩
  have hl4 := hys.length_eq
  refine n_then ?_
  refine c_seq ?_
  have hlast : ys[ys.length - 1]? = some (ys[ys.length - 1]'(by omega)) := List.getElem?_eq_getElem (by omega)
  refine c_region (by kernel_rfl) ?_
  refine st_q (ok_move (v := _) rfl ⟨rfl, rfl, rfl⟩) ?_
  refine st (ok_invoke_ptr rfl methPop ptr120 ent121 (mpop_ok hS4 hp4 hlast (by omega)) rfl ?_); rintro _ h5 N5 ⟨rfl, m5, v5, hS5, hp5, hk5⟩
  refine st_q (ok_assign (v := .iface _ _) rfl ⟨rfl, rfl, rfl⟩) ?_
  refine o_nil ?_
  refine n_then ?_
  refine c_ret ?_
  refine r_leave (leave_tmp rfl rfl ⟨_, m5, v5, ys.dropLast, rfl, hS5, hp5, ?_, ?_⟩)
  · have h1 : ys.dropLast ++ [ys[ys.length - 1]'(by omega)] = ys := by
      have h2 := List.dropLast_concat_getLast (l := ys) (by intro e; rw [e] at hl4; simp at hl4; omega)
      rw [List.getLast_eq_getElem] at h2
      exact h2
    have h3 : (ys[ys.length - 1]'(by omega) :: ys.dropLast).Perm (ys.dropLast ++ [ys[ys.length - 1]'(by omega)]) := (List.perm_append_comm (l₁ := ys.dropLast) (l₂ := [ys[ys.length - 1]'(by omega)])).symm
    rw [h1] at h3
    exact h3.trans (hys.trans hpm3)
  · have k34 : Kp m br v m4 v := ⟨fun c q hc _ hv => (hkeep4 c hv).trans ((hkeep3 c hv).trans hc), fun c q hc hv => hv⟩
    exact k34.trans hk5 ⟨_, hp4.r⟩
end
end Sx
end Go.Proofs.YbulkcsqkGreat
