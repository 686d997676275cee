import Derived.Test.YbulkcsqkGreatSxLib
import Derived.Laws.CopyRow
namespace Go.Proofs.YbulkcsqkGreat
namespace Sx
open Go.Shelf Go.RowKit Go.Lib Go.Sort
set_option maxRecDepth 10000
set_option maxHeartbeats 1000000
section
variable {P : Program} {w0 : World} {r : Option Nat} {E : Env} {h : Hp} {N : Nat} {K : Value → Hp → Nat → Prop}
variable {d : Option Tmp} {ty : TypeId} {p : String} {af : Array Edge} {g : Option (Nat × Bool)} {x y : Operand} {t t' : TypeId}
theorem ok_copy {e : TypeId} {u : Bool} {bytes b o b2 o2 dn dc sn sc n : Nat} {zv : Value} {cs ys : Array Value} {te t2 : TypeId} {f2 : Nat × Nat} {ts : Array TypeId} (hts : ts = #[t, t']) (hT : P.underlying t = some (.slice e)) (hE : Ty P e u 1 bytes zv) (hx : ev E x = .slice (some ⟨b, o, none⟩) dn dc) (hb : h b = some (.cells cs te (0, 0)))
    (hy : ev E y = .slice (some ⟨b2, o2, none⟩) sn sc) (hb2 : h b2 = some (.cells ys t2 f2)) (hn : n = Nat.min sn dn) (ho2 : o2 + n ≤ ys.size) (ho : o + n ≤ cs.size) (h1 : ∀ v ∈ (ys.extract o2 (o2 + n)).toList, isOne v = true)
    (k : K (.int .i64 (n : Int)) (hset h b (.cells (lay cs o (ys.extract o2 (o2 + n)).toList) te (0, 0))) N) :
    opOk P w0 r ⟨d, .call { callee := .builtin .copy, args := #[x, y], argTypes := ts }, ty, p, af, g⟩ E h N K := by
  subst hts
  refine ok_of fun w hw => ?_
  generalize hnews : (ys.extract o2 (o2 + n)).toList = news at *
  have hnl : news.length = n := by rw [← hnews]; simp; omega
  obtain ⟨w', hr, ha⟩ := run_storeCells (P := P) news w h b o 0 cs te hw hb (by rw [hnl]; omega) h1
  rw [Nat.add_zero, lay_eq cs o news (by rw [hnl]; omega)] at ha
  refine ⟨.int .i64 (n : Int), w', _, N, ?_, ha, k⟩
  have hcells : ∀ j v, news[j]? = some v → w.cell? ((⟨b2, o2, none⟩ : Addr).add j) = some v := by
    intro j v hj
    rw [add_none, hw.cell hb2]
    rw [← hnews] at hj
    simp only [Array.getElem?_toList, Array.getElem?_extract] at hj
    split at hj
    · exact hj
    · cases hj
  have hl := run_loadCells_list (P := P) w ⟨b2, o2, none⟩ news hcells
  rw [hnl] at hl
  have hc : (Builtin.copy_ #[t, t'] ty #[.slice (some ⟨b, o, none⟩) dn dc, .slice (some ⟨b2, o2, none⟩) sn sc]).run P w = .ok (.int .i64 (n : Int)) w' := by
    simp [Builtin.copy_, run_underlying hT, Builtin.lenOf, Builtin.firstCells, run_sizeOf hE, ← hn, hl, hr, goInt]
  have hex : (execOp (ev E) ⟨d, .call { callee := .builtin .copy, args := #[x, y], argTypes := #[t, t'] }, ty, p, af, g⟩).run P w = ((Builtin.copy_ #[t, t'] ty #[ev E x, ev E y]).run P w).andThen (fun a w' => .ok (.value a) w') := by
    rw [BigFrame.execOp_builtin]
    simp only [List.map_toArray, List.map_cons, List.map_nil]
    exact Sem.run_bind _ _ _ _
  rw [hex, hx, hy, hc]
  rfl
end
section
variable {w0 : World} {h : Hp} {N : Nat}
/-- A row that is ours grows. -/
theorem own_grow {m X h : Hp} {e : TypeId} {sz N b' N' n' c' : Nat} {v : Value} {xs ys : List Value} {cs' : Array Value} (hS : Sep m X h) (ho : Own m e sz v xs) (hG : Grown h N b' N' e v) (hs : cs'.size = c' * sz) (hn : n' ≤ c') (hl : ys.length = n' * sz) (ht : cs'.toList.take (n' * sz) = ys) :
    Sep (hset m b' (.cells cs' e (0, 0))) X (hset h b' (.cells cs' e (0, 0))) ∧ Own (hset m b' (.cells cs' e (0, 0))) e sz (.slice (some ⟨b', 0, none⟩) n' c') ys ∧ ∀ y o, m y = some o → blk v ≠ some y → hset m b' (.cells cs' e (0, 0)) y = some o := by
  refine ⟨?_, .inr ⟨b', n', c', cs', rfl, hset_same _ _ _, hs, hn, hl, ht⟩, fun y o hy hb => ?_⟩
  · rcases hG.or hS.own with ⟨h1, _⟩ | h1
    · exact hS.new h1 _
    · obtain ⟨cs, hc⟩ := ho.at h1
      exact hS.set hc _
  · rw [hset_ne _ _ ?_]
    · exact hy
    · rcases hG.or hS.own with ⟨_, h1⟩ | h1
      · exact ne_of_none hy h1
      · exact fun e => hb (by rw [e]; exact h1)
theorem mul_ok {x y : Nat} (hx : x ≤ 1000) (hy : y ≤ 1000) : CallsX Ybaz.prog w0 92 #[.int .u64 (x : Int), .int .u64 (y : Int)] h N (fun u h' N' => u = .tuple #[.int .u64 0, .int .u64 ((x * y : Nat) : Int)] ∧ h' = h ∧ N' = N) := by
  intro w hw
  have hc := Any.bits_Mul Ybaz.mulL x y (by omega) (by omega) w
  change Calls Ybaz.prog 92 _ _ _ at hc
  refine hc.mono ?_
  rintro e w' ⟨rfl, rfl⟩
  have hm : x * y ≤ 1000 * 1000 := Nat.mul_le_mul hx hy
  refine ⟨_, h, N, rfl, hw, ?_, rfl, rfl⟩
  rw [Nat.div_eq_of_lt (by omega), Nat.mod_eq_of_lt (by omega)]
  rfl
theorem first_one {cs : Array Value} {v : Value} (hc : cs[0]? = some v) : (cs.extract 0 (0 + 1)).toList = [v] := by
  obtain ⟨l⟩ := cs
  cases l with
  | nil => simp at hc
  | cons a l => simp at hc; subst hc; simp
/-- slices.Repeat at one cell. -/
theorem repeat_ok {b c n : Nat} {cs : Array Value} {i : Int} (hb : h b = some (.cells cs 3 (0, 0))) (hc : cs[0]? = some (.int .i64 i)) (hn : 0 < n) (hl : n ≤ 1000) :
    CallsX Ybaz.prog w0 75 #[.slice (some ⟨b, 0, none⟩) 1 c, .int .i64 (n : Int)] h N (fun u h' N' => ∃ cs', u = .slice (some ⟨N, 0, none⟩) n n ∧ h' = hset h N (.cells cs' 3 (0, 0)) ∧ N' = N + 1 ∧ cs'.size = n ∧ (∀ j, j < n → cs'[j]? = some (.int .i64 i)) ∧ ∀ b, N ≤ b → h b = none) := by
  refine calls_of Ybaz.func75 rfl Ybaz.ntmps75 (Nat.le_of_ble_eq_true rfl) ?_
  refine c_seq ?_
  refine c_region (by kernel_rfl) ?_
  refine st_q (ok_assign (v := .slice _ _ _) rfl ⟨rfl, rfl, rfl⟩) ?_
  refine o_nil ?_
  refine n_then ?_
  refine c_seq ?_
  refine c_seq ?_
  refine c_region (by kernel_rfl) ?_
  refine st_q (ok_move (v := .int _ _) rfl ⟨rfl, rfl, rfl⟩) ?_
  refine st_q (ok_lss rfl rfl ⟨rfl, rfl, rfl⟩) ?_
  refine o_nil ?_
  refine n_then ?_
  refine c_cond_prop rfl (fun hc => by omega) (fun _ => ?_)
  refine c_skip ?_
  refine n_then ?_
  refine c_seq ?_
  refine c_region (by kernel_rfl) ?_
  refine st_q (ok_move (v := .slice _ _ _) rfl ⟨rfl, rfl, rfl⟩) ?_
  refine st_q (ok_len (sl rfl) rfl ⟨rfl, rfl, rfl⟩) ?_
  refine st_q (ok_convert (ik rfl) (ik rfl) rfl (wrap_u64 (by omega) (by omega)) ⟨rfl, rfl, rfl⟩) ?_
  refine st_q (ok_move (v := .int _ _) rfl ⟨rfl, rfl, rfl⟩) ?_
  refine st_q (ok_convert (ik rfl) (ik rfl) rfl (wrap_u64 (by omega) (by omega)) ⟨rfl, rfl, rfl⟩) ?_
  refine st (ok_call rfl ent92 (mul_ok (x := 1) (y := n) (by omega) hl) rfl ?_)
  rintro _ h N ⟨rfl, rfl, rfl⟩; rw [Nat.one_mul]
  refine st_q (ok_move (v := .tuple _) rfl ⟨rfl, rfl, rfl⟩) ?_
  refine st_q (ok_extract rfl rfl ⟨rfl, rfl, rfl⟩) ?_
  refine st_q (ok_extract rfl rfl ⟨rfl, rfl, rfl⟩) ?_
  refine st_q (ok_assign (v := .int _ _) rfl ⟨rfl, rfl, rfl⟩) ?_
  refine st_q (ok_assign (v := .int _ _) rfl ⟨rfl, rfl, rfl⟩) ?_
  refine o_nil ?_
  refine n_then ?_
  refine c_seq ?_
  refine c_seq ?_
  refine c_region (by kernel_rfl) ?_
  refine st_q (ok_move (v := .int _ _) rfl ⟨rfl, rfl, rfl⟩) ?_
  refine st_q (ok_gtr_f rfl rfl ((by omega)) ⟨rfl, rfl, rfl⟩) ?_
  refine st_q (ok_move (v := .bool _) rfl ⟨rfl, rfl, rfl⟩) ?_
  refine st_g rfl (ok_move (v := .int _ _) rfl ⟨rfl, rfl, rfl⟩) ?_
  refine st_g rfl (ok_gtr_f rfl rfl ((by omega)) ⟨rfl, rfl, rfl⟩) ?_
  refine st_q (ok_pick_false rfl rfl ⟨rfl, rfl, rfl⟩) ?_
  refine o_nil ?_
  refine n_then ?_
  refine c_cond_false rfl ?_
  refine c_skip ?_
  refine n_then ?_
  refine c_seq ?_
  refine c_region (by kernel_rfl) ?_
  refine st_q (ok_move (v := .int _ _) rfl ⟨rfl, rfl, rfl⟩) ?_
  refine st_q (ok_convert (ik rfl) (ik rfl) rfl (wrap_i64 (by omega) (by omega)) ⟨rfl, rfl, rfl⟩) ?_
  refine st (ok_makeSlice (sl rfl) (ty rfl) rfl rfl (by omega) (by omega) (by omega) (by omega) (l' := n) (c' := n) (by omega) (by omega) (fun hN30 => ?_))
  refine st_q (ok_assign (v := .slice _ _ _) rfl ⟨rfl, rfl, rfl⟩) ?_
  refine o_nil ?_
  refine n_then ?_
  refine c_seq ?_
  have hsz0 : 0 < cs.size := by
    rcases Nat.eq_zero_or_pos cs.size with h0 | h0
    · rw [Array.getElem?_eq_none (by omega)] at hc; cases hc
    · exact h0
  have hfirst := first_one hc
  refine c_region (by kernel_rfl) ?_
  refine st_q (ok_move (v := .slice _ _ _) rfl ⟨rfl, rfl, rfl⟩) ?_
  refine st_q (ok_move (v := .slice _ _ _) rfl ⟨rfl, rfl, rfl⟩) ?_
  refine st (ok_copy rfl (sl rfl) (ty rfl) rfl (hset_same _ _ _) rfl ((hset_ne _ _ (ne_of_none hb (hN30 _ (Nat.le_refl _)))).trans hb) (n := 1) (by show 1 = min 1 n; omega) (by omega) (by show 0 + 1 ≤ (madeCells #[Value.int .i64 0] (n * 1)).size; rw [made_size]; omega) (by rw [hfirst]; simp [isOne]) ?_)
  refine st_q (ok_assign (v := .int _ _) rfl ⟨rfl, rfl, rfl⟩) ?_
  refine o_nil ?_
  refine n_then ?_
  rw [hset_hset, hfirst]
  have hms : (lay (madeCells #[Value.int .i64 0] (n * 1)) 0 [Value.int .i64 i]).size = n := by
    rw [lay_size _ _ _ (by rw [made_size]; simp; omega), made_size]
  have hm0 : (lay (madeCells #[Value.int .i64 0] (n * 1)) 0 [Value.int .i64 i])[0]? = some (.int .i64 i) := by
    rw [lay_one _ _ _ (by rw [made_size]; omega), setA_same _ _ (by rw [made_size]; omega)]
  refine c_seq ?_
  refine c_block ?_
  refine c_loop (fun k E h' N' D => D = [] ∧ N' = N + 1 ∧ ∃ cs' f, f = n - k ∧ 0 < f ∧ k ≤ n ∧ h' = hset h N (.cells cs' 3 (0, 0)) ∧ cs'.size = n ∧ (∀ j, j < f → cs'[j]? = some (.int .i64 i)) ∧ Fr E [(7, .slice (some ⟨N, 0, none⟩) n n), (8, .int .i64 (f : Int))]) (k := n - 1) ⟨rfl, rfl, _, 1, by omega, by omega, by omega, rfl, hms, fun j hj => by rw [show j = 0 from by omega]; exact hm0, rfl, rfl, trivial⟩ ?_
  rintro k E h' N' D ⟨rfl, rfl, cs', f, hf, hf0, hkn, rfl, hsz, hall, hE⟩
  obtain ⟨E0, rfl⟩ := hE.ex
  refine c_seq ?_
  refine c_seq ?_
  refine c_region (by kernel_rfl) ?_
  refine st_q (ok_move (v := .int _ _) rfl ⟨rfl, rfl, rfl⟩) ?_
  refine st_q (ok_move (v := .slice _ _ _) rfl ⟨rfl, rfl, rfl⟩) ?_
  refine st_q (ok_len (sl rfl) rfl ⟨rfl, rfl, rfl⟩) ?_
  refine st_q (ok_lss rfl rfl ⟨rfl, rfl, rfl⟩) ?_
  refine o_nil ?_
  refine n_then ?_
  refine c_cond_prop rfl (fun hc2 => ?_) (fun hc2 => ?_)
  · skip
    refine c_skip ?_
    refine n_then ?_
    refine c_block ?_
    obtain ⟨mn, hmn⟩ : ∃ mn, mn = Nat.min f (n - f) := ⟨_, rfl⟩
    have hmin : mn ≤ n - f := by rw [hmn]; exact Nat.min_le_right _ _
    have hmin2 : mn ≤ f := by rw [hmn]; exact Nat.min_le_left _ _
    have hmin3 : 0 < mn := by rw [hmn]; show 0 < min f (n - f); omega
    have hone : ∀ v ∈ (cs'.extract 0 (0 + mn)).toList, isOne v = true := by
      intro v hv
      obtain ⟨q, hq, he⟩ := List.getElem_of_mem hv
      have hq2 : q < mn := by simp at hq; omega
      have hq3 : q < f := Nat.lt_of_lt_of_le hq2 hmin2
      have := hall q hq3
      have he2 : (cs'.extract 0 (0 + mn)).toList[q]? = some v := by rw [List.getElem?_eq_getElem hq, he]
      simp only [Array.getElem?_toList, Array.getElem?_extract] at he2
      split at he2
      · rw [Nat.zero_add, this] at he2; cases he2; rfl
      · cases he2
    refine c_cut (fun E h' N' D => D = [] ∧ N' = N + 1 ∧ h' = hset h N (.cells (lay cs' f (cs'.extract 0 (0 + mn)).toList) 3 (0, 0)) ∧ Fr E [(7, .slice (some ⟨N, 0, none⟩) n n), (8, .int .i64 ((f + mn : Nat) : Int))]) ?_ ?_
    · skip
      refine c_draw mixed [0, 0, 0, 0, 0, 0, 0, 2] 10 rfl [((0, 2), [((1, 2), [((2, 2), [((3, 2), [((4, 2), [((5, 2), [((6, 2), [((7, 0), [((8, 2), [((9, 2), ())])])])])])])])])])] (by kernel_rfl) (by kernel_rfl) ?_
      refine w_p rfl (fun _ _ => ok_move (v := .int _ _) rfl ⟨rfl, rfl, rfl⟩) ?_
      refine w_p rfl (fun _ _ => ok_move (v := .slice _ _ _) rfl ⟨rfl, rfl, rfl⟩) ?_
      refine w_p rfl (fun _ _ => ok_move (v := .int _ _) rfl ⟨rfl, rfl, rfl⟩) ?_
      refine w_p rfl (fun _ _ => ok_slice_lo (sl rfl) (ty rfl) rfl rfl (by omega) (by omega) (o' := f) (n' := (n - f)) (c' := (n - f)) (by rw [if_neg (by omega)]; omega) (by omega) (by omega) ⟨rfl, rfl, rfl⟩) ?_
      refine w_p rfl (fun _ _ => ok_move (v := .slice _ _ _) rfl ⟨rfl, rfl, rfl⟩) ?_
      refine w_p rfl (fun _ _ => ok_move (v := .int _ _) rfl ⟨rfl, rfl, rfl⟩) ?_
      refine w_p rfl (fun _ _ => ok_slice_hi (sl rfl) (ty rfl) rfl rfl (by omega) (by omega) ⟨rfl, rfl, rfl⟩) ?_
      refine w_e rfl (ok_copy rfl (sl rfl) (ty rfl) rfl (hset_same _ _ _) rfl (hset_same _ _ _) (n := mn) hmn (by omega) (by omega) hone ⟨trivial, ?_⟩)
      refine w_p rfl (fun _ _ => ok_add rfl rfl (by omega) (by omega) ⟨rfl, rfl, rfl⟩) ?_
      refine w_p rfl (fun _ _ => ok_assign (v := .int _ _) rfl ⟨rfl, rfl, rfl⟩) ?_
      refine w_nil ?_
      refine n_then ⟨rfl, rfl, hset_hset _ _ _ _, rfl, ?_, trivial⟩; simp [upd]
    rintro E h' N' D ⟨rfl, rfl, rfl, hE⟩
    have hlen : (cs'.extract 0 (0 + mn)).toList.length = mn := by simp; omega
    have hls : (lay cs' f (cs'.extract 0 (0 + mn)).toList).size = n := by rw [lay_size _ _ _ (by rw [hlen]; omega), hsz]
    refine n_block (n_then ⟨k - mn, by omega, rfl, rfl, _, f + mn, by omega, by omega, by omega, rfl, hls, fun j hj => ?_, hE⟩)
    rw [← Array.getElem?_toList]
    show (cs'.toList.take f ++ (_ ++ _))[j]? = _
    have hlf : (cs'.toList.take f).length = f := by simp; omega
    rcases Nat.lt_or_ge j f with hjf | hjf
    · rw [List.getElem?_append_left (by omega), List.getElem?_take, if_pos hjf, Array.getElem?_toList]
      exact hall j hjf
    · rw [List.getElem?_append_right (by omega), hlf, List.getElem?_append_left (by rw [hlen]; omega)]
      simp only [Array.getElem?_toList, Array.getElem?_extract]
      rw [if_pos (by omega), Nat.zero_add]
      exact hall _ (by omega)
  · skip
    refine c_exit ?_
    refine x_then (x_then (x_block (n_then ?_)))
    refine c_seq ?_
    refine c_region (by kernel_rfl) ?_
    refine st_q (ok_move (v := .slice _ _ _) rfl ⟨rfl, rfl, rfl⟩) ?_
    refine st_q (ok_assign (v := .slice _ _ _) rfl ⟨rfl, rfl, rfl⟩) ?_
    refine o_nil ?_
    refine n_then ?_
    refine c_ret ?_
    have hfn : f = n := by omega
    exact r_leave (leave_tmp rfl rfl ⟨cs', rfl, rfl, rfl, hsz, fun j hj => hall j (by omega), hN30⟩)

/-- Pieces laid one behind the other. -/
def cat (pt : Nat → List Nat) : Nat → List Nat
  | 0 => []
  | j + 1 => cat pt j ++ pt j
theorem cat_le (pt : Nat → List Nat) {i j : Nat} (h : i ≤ j) : (cat pt i).length ≤ (cat pt j).length := by
  induction j with
  | zero => rw [show i = 0 from by omega]; exact Nat.le_refl _
  | succ j ih =>
    by_cases e : i = j + 1
    · rw [e]; exact Nat.le_refl _
    · have := ih (by omega)
      simp only [cat, List.length_append]; omega
theorem ints_append (xs ys : List Nat) : ints (xs ++ ys) = ints xs ++ ints ys := by simp [ints]
theorem ints_one (xs : List Nat) : ∀ v ∈ ints xs, isOne v = true := by
  intro v hv
  simp only [ints, List.mem_map] at hv
  obtain ⟨x, _, rfl⟩ := hv
  rfl
/-- slices.Concat of pieces of one row. -/
theorem concat_ok {ba b p c : Nat} {vs cs : Array Value} {fz fa : Nat × Nat} {ta : TypeId} {of ln cp : Nat → Nat} {pt : Nat → List Nat} (ha : h ba = some (.cells vs ta fa)) (hva : ∀ j, j < p → vs[j]? = some (.slice (some ⟨b, of j, none⟩) (ln j) (cp j))) (hb : h b = some (.cells cs 3 fz))
    (hpt : ∀ j, j < p → (cs.extract (of j) (of j + ln j)).toList = ints (pt j)) (hin : ∀ j, j < p → of j + ln j ≤ cs.size) (hp : p ≤ 1000) (h1 : 0 < (cat pt p).length) (h2 : (cat pt p).length ≤ 1000) :
    CallsX Ybaz.prog w0 49 #[.slice (some ⟨ba, 0, none⟩) p c] h N (fun u h' _ => ∃ m, Sep m h h' ∧ Own m 3 1 u (ints (cat pt p))) := by
  have hln : ∀ j, j < p → ln j = (pt j).length := by
    intro j hj
    have h3 := congrArg List.length (hpt j hj)
    have h4 := hin j hj
    simp [ints] at h3
    omega
  refine calls_of Ybaz.func49 rfl Ybaz.ntmps49 (Nat.le_of_ble_eq_true rfl) ?_
  refine c_seq ?_
  refine c_region (by kernel_rfl) ?_
  refine st_q (ok_assign (v := .slice _ _ _) rfl ⟨rfl, rfl, rfl⟩) ?_
  refine o_nil ?_
  refine n_then ?_
  refine c_seq ?_
  refine c_region (by kernel_rfl) ?_
  refine st_q (ok_assign (v := .int _ _) rfl ⟨rfl, rfl, rfl⟩) ?_
  refine o_nil ?_
  refine n_then ?_
  refine c_seq ?_
  refine c_seq ?_
  refine c_region (by kernel_rfl) ?_
  refine st_q (ok_move (v := .slice _ _ _) rfl ⟨rfl, rfl, rfl⟩) ?_
  refine st_q (ok_len (sl rfl) rfl ⟨rfl, rfl, rfl⟩) ?_
  refine st_q (ok_move (v := .int _ _) rfl ⟨rfl, rfl, rfl⟩) ?_
  refine o_nil ?_
  refine n_then ?_
  refine c_block ?_
  refine c_loop (fun k E h' N' D => D = [] ∧ h' = h ∧ N' = N ∧ k ≤ p ∧ Fr E [(0, .slice (some ⟨ba, 0, none⟩) p c), (3, .int .i64 ((cat pt (p - k)).length : Int)), (9, .slice (some ⟨ba, 0, none⟩) p c), (10, .int .i64 (p : Int)), (11, .int .i64 ((p - k : Nat) : Int))]) (k := p) ⟨rfl, rfl, rfl, Nat.le_refl _, rfl, by rw [Nat.sub_self]; rfl, rfl, rfl, by rw [Nat.sub_self]; rfl, trivial⟩ ?_
  rintro k E h N D ⟨rfl, rfl, rfl, hk, hE⟩
  obtain ⟨E0, rfl⟩ := hE.ex
  refine c_seq ?_
  refine c_region (by kernel_rfl) ?_
  refine st_q (ok_lss rfl rfl ⟨rfl, rfl, rfl⟩) ?_
  refine o_nil ?_
  refine n_then ?_
  refine c_seq ?_
  refine c_cond_prop rfl (fun hc => ?_) (fun hc => ?_)
  · skip
    generalize hj : p - k = j at *
    have hjp : j < p := by omega
    have hcl := cat_le pt (show j + 1 ≤ p from hjp)
    simp only [cat, List.length_append] at hcl
    have hlj := hln j hjp
    refine c_skip ?_
    refine n_then ?_
    refine c_seq ?_
    refine c_block ?_
    refine c_seq ?_
    refine c_region (by kernel_rfl) ?_
    refine st_q (ok_indexAddr (sl rfl) (ty rfl) rfl rfl (by omega) (by omega) (off := j) (by omega) ⟨rfl, rfl, rfl⟩) ?_
    refine st_q (ok_load (ty rfl) rfl ha (hva j hjp) ⟨rfl, rfl, rfl⟩) ?_
    refine st_q (ok_assign (v := .slice _ _ _) rfl ⟨rfl, rfl, rfl⟩) ?_
    refine o_nil ?_
    refine n_then ?_
    refine c_seq ?_
    refine c_region (by kernel_rfl) ?_
    refine st_q (ok_move (v := .int _ _) rfl ⟨rfl, rfl, rfl⟩) ?_
    refine st_q (ok_move (v := .slice _ _ _) rfl ⟨rfl, rfl, rfl⟩) ?_
    refine st_q (ok_len (sl rfl) rfl ⟨rfl, rfl, rfl⟩) ?_
    refine st_q (ok_add rfl rfl (by omega) (by omega) ⟨rfl, rfl, rfl⟩) ?_
    refine st_q (ok_assign (v := .int _ _) rfl ⟨rfl, rfl, rfl⟩) ?_
    refine o_nil ?_
    refine n_then ?_
    refine c_seq ?_
    refine c_region (by kernel_rfl) ?_
    refine st_q (ok_move (v := .int _ _) rfl ⟨rfl, rfl, rfl⟩) ?_
    refine st_q (ok_lss_f rfl rfl ((by omega)) ⟨rfl, rfl, rfl⟩) ?_
    refine o_nil ?_
    refine n_then ?_
    refine c_cond_false rfl ?_
    refine c_skip ?_
    refine n_block (n_then ?_)
    refine c_region (by kernel_rfl) ?_
    refine st_q (ok_add rfl rfl (by omega) (by omega) ⟨rfl, rfl, rfl⟩) ?_
    refine st_q (ok_move (v := .int _ _) rfl ⟨rfl, rfl, rfl⟩) ?_
    refine o_nil ?_
    refine n_then ⟨k - 1, by omega, rfl, rfl, rfl, by omega, rfl, ?_, rfl, rfl, ?_, trivial⟩
    · rw [show p - (k - 1) = j + 1 from by omega]
      show Value.int .i64 (((cat pt j).length : Int) + (ln j : Int)) = _
      congr 1
      simp only [cat, List.length_append]; omega
    · show Value.int .i64 ((j : Int) + 1) = _
      congr 1; omega
  · skip
    have hk0 : k = 0 := by omega
    subst hk0
    rw [Nat.sub_zero] at *
    refine c_exit ?_
    refine x_then (x_then (x_block (n_then ?_)))
    refine c_seq ?_
    refine c_region (by kernel_rfl) ?_
    refine st_q (ok_move (v := .int _ _) rfl ⟨rfl, rfl, rfl⟩) ?_
    refine st (ok_call rfl ent74 (grow_ok h1 h2) rfl ?_)
    rintro _ h' N' ⟨c2, cs2, rfl, rfl, rfl, hz, hle, hfr⟩
    refine st_q (ok_assign (v := .slice _ _ _) rfl ⟨rfl, rfl, rfl⟩) ?_
    refine o_nil ?_
    refine n_then ?_
    refine c_seq ?_
    refine c_seq ?_
    refine c_region (by kernel_rfl) ?_
    refine st_q (ok_move (v := .slice _ _ _) rfl ⟨rfl, rfl, rfl⟩) ?_
    refine st_q (ok_len (sl rfl) rfl ⟨rfl, rfl, rfl⟩) ?_
    refine st_q (ok_move (v := .int _ _) rfl ⟨rfl, rfl, rfl⟩) ?_
    refine o_nil ?_
    refine n_then ?_
    have hS0 := (Sep.start h).push hfr (.cells cs2 3 (0, 0))
    refine c_block ?_
    refine c_loop (fun k E h' N' D => D = [] ∧ k ≤ p ∧ (∃ m v, Sep m h h' ∧ Own m 3 1 v (ints (cat pt (p - k))) ∧ (∃ a b c, v = .slice a b c) ∧ E 6 = v) ∧ Fr E [(25, .slice (some ⟨ba, 0, none⟩) p c), (26, .int .i64 (p : Int)), (27, .int .i64 ((p - k : Nat) : Int))]) (k := p) ⟨rfl, Nat.le_refl _, ⟨_, _, hS0, .inr ⟨N, 0, c2, cs2, rfl, hset_same _ _ _, by omega, by omega, by rw [Nat.sub_self]; rfl, by rw [Nat.sub_self]; rfl⟩, ⟨_, _, _, rfl⟩, rfl⟩, rfl, rfl, by rw [Nat.sub_self]; rfl, trivial⟩ ?_
    clear hS0
    rintro k E h' N' D ⟨rfl, hk, ⟨m, v, hS, ho, ⟨a1, a2, a3, rfl⟩, hE6⟩, hE⟩
    have hE := And.intro hE6 hE
    obtain ⟨E0, rfl⟩ := Fr.ex (E := E) (l := [(6, _), (25, _), (26, _), (27, _)]) hE
    refine c_seq ?_
    refine c_region (by kernel_rfl) ?_
    refine st_q (ok_lss rfl rfl ⟨rfl, rfl, rfl⟩) ?_
    refine o_nil ?_
    refine n_then ?_
    refine c_seq ?_
    refine c_cond_prop rfl (fun hc => ?_) (fun hc => ?_)
    · skip
      generalize hj : p - k = j at *
      have hjp : j < p := by omega
      have hcl := cat_le pt (show j + 1 ≤ p from hjp)
      simp only [cat, List.length_append] at hcl
      have hlj := hln j hjp
      have hil : (ints (cat pt j)).length = (cat pt j).length := by simp [ints]
      refine c_skip ?_
      refine n_then ?_
      refine c_seq ?_
      refine c_block ?_
      refine c_seq ?_
      refine c_region (by kernel_rfl) ?_
      refine st_q (ok_indexAddr (sl rfl) (ty rfl) rfl rfl (by omega) (by omega) (off := j) (by omega) ⟨rfl, rfl, rfl⟩) ?_
      refine st_q (ok_load (ty rfl) rfl (hS.oth _ _ ha) (hva j hjp) ⟨rfl, rfl, rfl⟩) ?_
      refine st_q (ok_assign (v := .slice _ _ _) rfl ⟨rfl, rfl, rfl⟩) ?_
      refine o_nil ?_
      refine n_then ?_
      have hEnd : p - (k - 1) = j + 1 := by omega
      refine c_cut (fun E h' N' D => D = [] ∧ (∃ m v, Sep m h h' ∧ Own m 3 1 v (ints (cat pt (j + 1))) ∧ (∃ a b c, v = .slice a b c) ∧ E 6 = v) ∧ Fr E [(25, .slice (some ⟨ba, 0, none⟩) p c), (26, .int .i64 (p : Int)), (27, .int .i64 (j : Int))]) ?_ ?_
      · rcases Nat.eq_zero_or_pos (ln j) with hz0 | hpos
        · have hpe : pt j = [] := by
            rw [hz0] at hlj
            exact List.length_eq_zero_iff.1 hlj.symm
          rw [hz0]
          have hnc : a2 ≤ a3 := by
            rcases ho with ⟨h3, _⟩ | ⟨b5, n5, c5, cs5, h3, _, _, h4, _⟩
            · cases h3; exact Nat.le_refl _
            · cases h3; exact h4
          refine c_region (by kernel_rfl) ?_
          refine st_q (ok_move (v := .slice _ _ _) rfl ⟨rfl, rfl, rfl⟩) ?_
          refine st_q (ok_move (v := .slice _ _ _) rfl ⟨rfl, rfl, rfl⟩) ?_
          refine st (ok_append_none rfl (sl rfl) (ty rfl) rfl rfl hnc ?_)
          refine st_q (ok_assign (v := .slice _ _ _) rfl ⟨rfl, rfl, rfl⟩) ?_
          refine o_nil ?_
          refine n_then ⟨rfl, ⟨m, _, hS, by simp only [cat, hpe, List.append_nil]; exact ho, ⟨_, _, _, rfl⟩, rfl⟩, rfl, rfl, rfl, trivial⟩
        · skip
          refine c_region (by kernel_rfl) ?_
          refine st_q (ok_move (v := .slice _ _ _) rfl ⟨rfl, rfl, rfl⟩) ?_
          refine st_q (ok_move (v := .slice _ _ _) rfl ⟨rfl, rfl, rfl⟩) ?_
          refine st (ok_append rfl (sl rfl) (ty rfl) rfl rfl (ho.ext hS.own) rfl (hS.oth _ _ hb) (by have := hin j hjp; omega) (by rw [Nat.mul_one, hpt j hjp]; exact ints_one _) hpos (by decide) (by omega) (by omega) (fun b' n' c' cs' N4 hcase hcz hnc hln htk hnq => ?_))
          refine st_q (ok_assign (v := .slice _ _ _) rfl ⟨rfl, rfl, rfl⟩) ?_
          refine o_nil ?_
          rw [Nat.mul_one (ln j), hpt j hjp, ← ints_append] at hln htk
          obtain ⟨hS4, ho4, _⟩ := own_grow hS ho hcase hcz hnc hln htk
          refine n_then ⟨rfl, ⟨_, _, hS4, ho4, ⟨_, _, _, rfl⟩, rfl⟩, rfl, rfl, rfl, trivial⟩
      rintro E h2 N2 D ⟨rfl, ⟨m2, v2, hS2, ho2, ⟨d1, d2, d3, rfl⟩, hE6⟩, hE⟩
      have hE := And.intro hE6 hE
      obtain ⟨E0, rfl⟩ := Fr.ex (E := E) (l := [(6, _), (25, _), (26, _), (27, _)]) hE
      refine n_block (n_then ?_)
      refine c_region (by kernel_rfl) ?_
      refine st_q (ok_add rfl rfl (by omega) (by omega) ⟨rfl, rfl, rfl⟩) ?_
      refine st_q (ok_move (v := .int _ _) rfl ⟨rfl, rfl, rfl⟩) ?_
      refine o_nil ?_
      refine n_then ⟨k - 1, by omega, rfl, by omega, ⟨m2, _, hS2, by rw [hEnd]; exact ho2, ⟨_, _, _, rfl⟩, rfl⟩, rfl, rfl, ?_, trivial⟩
      show Value.int .i64 ((j : Int) + 1) = _
      congr 1; omega
    · skip
      have hk0 : k = 0 := by omega
      subst hk0
      rw [Nat.sub_zero] at ho
      refine c_exit ?_
      refine x_then (x_then (x_block (n_then ?_)))
      refine c_seq ?_
      refine c_region (by kernel_rfl) ?_
      refine st_q (ok_move (v := .slice _ _ _) rfl ⟨rfl, rfl, rfl⟩) ?_
      refine st_q (ok_assign (v := .slice _ _ _) rfl ⟨rfl, rfl, rfl⟩) ?_
      refine o_nil ?_
      refine n_then ?_
      refine c_ret ?_
      exact r_leave (leave_tmp rfl rfl ⟨m, hS, ho⟩)
end
end Sx
end Go.Proofs.YbulkcsqkGreat
