import Derived.Test.YbulkcsqkGreatSxLeafA
import Derived.Test.YbulkcsqkGreatSxBits
import Derived.Test.YbulkcsqkGreatSxPlainB
namespace Go.Proofs.YbulkcsqkGreat
namespace Sx
set_option maxRecDepth 10000
set_option maxHeartbeats 1000000
variable {w0 : World}
/-- The words of a row. -/
def Wd (cs : Array Value) (F : Nat → Int) : Prop := ∀ k, k < cs.size → cs[k]? = some (.int .u64 (F k))
def bit (W : Nat) (F : Nat → Int) (i x : Nat) : Bool := bitOf (F (i * W + x / 64)) (x % 64)
theorem row_in {n W i : Nat} (hi : i < n) : i * W + W ≤ n * W := by
  have := Nat.mul_le_mul_right W (show i + 1 ≤ n from hi)
  rw [Nat.succ_mul] at this; exact this
theorem row_apart {W i j : Nat} (hne : i ≠ j) : i * W + W ≤ j * W ∨ j * W + W ≤ i * W := by
  rcases Nat.lt_or_ge i j with h | h
  · exact .inl (row_in h)
  · exact .inr (row_in (by omega))
section
variable {h m X : Hp} {N : Nat}
theorem orInto_ok {rb o1 o2 W c1 c2 : Nat} {cs : Array Value} {F : Nat → Int} (hb : h rb = some (.cells cs 85 (0, 0))) (hF : Wd cs F) (h1 : o1 + W ≤ cs.size) (h2 : o2 + W ≤ cs.size) (hd : o1 + W ≤ o2 ∨ o2 + W ≤ o1) (hW : W ≤ 1000) :
    CallsX Ybaz.prog w0 57 #[.slice (some ⟨rb, o1, none⟩) W c1, .slice (some ⟨rb, o2, none⟩) W c2] h N (fun u h' N' => u = .tuple #[] ∧ N' = N ∧ ∃ cs' F', h' = hset h rb (.cells cs' 85 (0, 0)) ∧ cs'.size = cs.size ∧ Wd cs' F' ∧ (∀ w, w < W → F' (o1 + w) = or64 (F (o1 + w)) (F (o2 + w))) ∧ ∀ k, (k < o1 ∨ o1 + W ≤ k) → F' k = F k) := by
  refine calls_of Ybaz.func57 rfl Ybaz.ntmps57 (Nat.le_of_ble_eq_true rfl) ?_
  refine c_seq ?_
  refine c_region (by kernel_rfl) ?_
  refine st_q (ok_move (v := .slice _ _ _) rfl ⟨rfl, rfl, rfl⟩) ?_
  refine st_q (ok_len (sl rfl) rfl ⟨rfl, rfl, rfl⟩) ?_
  refine st_q (ok_move (v := .int _ _) rfl ⟨rfl, rfl, rfl⟩) ?_
  refine o_nil ?_
  refine n_then ?_
  refine c_block ?_
  refine c_loop (fun k E h' N' D => D = [] ∧ N' = N ∧ k ≤ W ∧ (∃ cs' F', h' = hset h rb (.cells cs' 85 (0, 0)) ∧ cs'.size = cs.size ∧ Wd cs' F' ∧ (∀ w, w < W - k → F' (o1 + w) = or64 (F (o1 + w)) (F (o2 + w))) ∧ ∀ k2, (k2 < o1 ∨ o1 + (W - k) ≤ k2) → F' k2 = F k2) ∧ Fr E [(0, .slice (some ⟨rb, o1, none⟩) W c1), (6, .slice (some ⟨rb, o2, none⟩) W c2), (7, .int .i64 (W : Int)), (8, .int .i64 ((W - k : Nat) : Int))]) (k := W) ⟨rfl, rfl, Nat.le_refl _, ⟨cs, F, (hset_self hb).symm, rfl, hF, fun w hw => by omega, fun _ _ => rfl⟩, rfl, rfl, rfl, by rw [Nat.sub_self]; rfl, trivial⟩ ?_
  rintro k E h' N' D ⟨rfl, rfl, hk, ⟨cs', F', rfl, hz, hF', hin, hout⟩, hE⟩
  obtain ⟨E0, rfl⟩ := hE.ex
  refine c_seq ?_
  refine c_region (by kernel_rfl) ?_
  refine st_q (ok_lss rfl rfl ⟨rfl, rfl, rfl⟩) ?_
  refine o_nil ?_
  refine n_then ?_
  refine c_seq ?_
  refine c_cond_prop rfl (fun hc => ?_) (fun hc => ?_)
  · skip
    generalize hq : W - k = q at *
    have hqW : q < W := by omega
    refine c_skip ?_
    refine n_then ?_
    refine c_seq ?_
    refine c_block ?_
    refine c_seq ?_
    refine c_region (by kernel_rfl) ?_
    refine st_q (ok_move (v := .int _ _) rfl ⟨rfl, rfl, rfl⟩) ?_
    refine st_q (ok_indexAddr (sl rfl) (ty rfl) rfl rfl (by omega) (by omega) (off := (o2 + q)) (by omega) ⟨rfl, rfl, rfl⟩) ?_
    refine st_q (ok_load (ty rfl) rfl (hset_same _ _ _) (hF' (o2 + q) (by omega)) ⟨rfl, rfl, rfl⟩) ?_
    refine st_q (ok_assign (v := .int _ _) rfl ⟨rfl, rfl, rfl⟩) ?_
    refine st_q (ok_assign (v := .int _ _) rfl ⟨rfl, rfl, rfl⟩) ?_
    refine o_nil ?_
    refine n_then ?_
    refine c_region (by kernel_rfl) ?_
    refine st_q (ok_move (v := .slice _ _ _) rfl ⟨rfl, rfl, rfl⟩) ?_
    refine st_q (ok_move (v := .int _ _) rfl ⟨rfl, rfl, rfl⟩) ?_
    refine st_q (ok_indexAddr (sl rfl) (ty rfl) rfl rfl (by omega) (by omega) (off := (o1 + q)) (by omega) ⟨rfl, rfl, rfl⟩) ?_
    refine st_q (ok_load (ty rfl) rfl (hset_same _ _ _) (hF' (o1 + q) (by omega)) ⟨rfl, rfl, rfl⟩) ?_
    refine st_q (ok_move (v := .int _ _) rfl ⟨rfl, rfl, rfl⟩) ?_
    refine st_q (ok_or rfl rfl ⟨rfl, rfl, rfl⟩) ?_
    refine st_q (ok_indexAddr (sl rfl) (ty rfl) rfl rfl (by omega) (by omega) (off := (o1 + q)) (by omega) ⟨rfl, rfl, rfl⟩) ?_
    refine st0 (ok_store (ty rfl) rfl (v := .int _ _) rfl rfl (hset_same _ _ _) (by omega) ?_)
    refine o_nil ?_
    refine n_block (n_then ?_)
    refine c_region (by kernel_rfl) ?_
    refine st_q (ok_add rfl rfl (by omega) (by omega) ⟨rfl, rfl, rfl⟩) ?_
    refine st_q (ok_move (v := .int _ _) rfl ⟨rfl, rfl, rfl⟩) ?_
    refine o_nil ?_
    refine n_then ⟨k - 1, by omega, rfl, rfl, by omega, ⟨_, fun x => if x = o1 + q then or64 (F' (o1 + q)) (F' (o2 + q)) else F' x, hset_hset _ _ _ _, by rw [setA_size]; exact hz, fun x hx => ?_, fun w hw => ?_, fun x hx => ?_⟩, rfl, rfl, rfl, ?_, trivial⟩
    · rw [setA_size] at hx
      by_cases e : x = o1 + q
      · subst e; rw [setA_same _ _ (by omega)]; simp
      · rw [setA_ne _ _ (fun e2 => e e2.symm), hF' x hx]; simp [e]
    · by_cases e : w = q
      · subst e
        simp only [if_true]
        rw [hout (o1 + w) (by omega), hout (o2 + w) (by omega)]
      · have : ¬ o1 + w = o1 + q := by omega
        simp only [this, if_false]
        exact hin w (by omega)
    · have : ¬ x = o1 + q := by omega
      simp only [this, if_false]
      exact hout x (by omega)
    · show Value.int .i64 ((q : Int) + 1) = _
      congr 1; omega
  · skip
    refine c_exit ?_
    refine x_then (x_then (x_block ?_))
    have hk0 : k = 0 := by omega
    subst hk0
    rw [Nat.sub_zero] at hin hout
    exact n_leave (leave_none rfl ⟨rfl, rfl, cs', F', rfl, hz, hF', hin, hout⟩)

theorem union_ok {rb i n W c1 fq bc : Nat} {cs : Array Value} {F : Nat → Int} {v : Value} {ys : List Nat} {S : Nat → List Nat} (hS : Sep m X h) (hb : m rb = some (.cells cs 85 (0, 0))) (hF : Wd cs F) (hz : cs.size = n * W) (hnW : n ≤ 64 * W) (hW : W ≤ 1000) (hn : n ≤ 1000) (hi : i < n) (ho : Own X 3 1 v (ints ys)) (hyl : ys.length ≤ 1000) (hys : ∀ y, y ∈ ys → y < n ∧ y ≠ i)
    (he : Enters Ybaz.prog fq) (hof : ∀ (h' : Hp) (N' j : Nat), Ext X h' → j < n → CallsX Ybaz.prog w0 fq #[.pointer (some ⟨bc, 0, none⟩), .int .i64 (j : Int)] h' N' (fun u h2 N2 => u = .slice (some ⟨rb, j * W, none⟩) W (n * W - j * W) ∧ h2 = h' ∧ N2 = N'))
    (hrow : ∀ x, x < n → bit W F i x = false) (hdone : ∀ y, y ∈ ys → ∀ x, x < n → (bit W F y x = true ↔ RC S y x)) :
    CallsX Ybaz.prog w0 32 #[.slice (some ⟨rb, i * W, none⟩) W c1, .int .i64 (i : Int), v, .func (.func fq) #[.pointer (some ⟨bc, 0, none⟩)] #[]] h N (fun u h' _ => u = .tuple #[] ∧ ∃ cs' F', Sep (hset m rb (.cells cs' 85 (0, 0))) X h' ∧ cs'.size = n * W ∧ Wd cs' F' ∧ (∀ j x, j < n → j ≠ i → x < n → bit W F' j x = bit W F j x) ∧ UInv S i n ys (bit W F' i)) := by
  obtain ⟨ao, cap, rfl, hcap, hr⟩ := ho.row
  have hri := row_in (W := W) hi
  have hbig : n * W ≤ 1000 * 1000 := Nat.mul_le_mul hn hW
  have hdiv : ∀ x, x < n → x / 64 < W := fun x hx => by omega
  refine calls_of Ybaz.func32 rfl Ybaz.ntmps32 (Nat.le_of_ble_eq_true rfl) ?_
  have hdi := hdiv i hi
  refine c_seq ?_
  refine c_cut (fun E h' _ D => D = [] ∧ (∃ cs' F', Sep (hset m rb (.cells cs' 85 (0, 0))) X h' ∧ cs'.size = n * W ∧ Wd cs' F' ∧ (∀ j x, j < n → j ≠ i → x < n → bit W F' j x = bit W F j x) ∧ UInv S i n [] (bit W F' i)) ∧ Fr E [(0, .slice (some ⟨rb, i * W, none⟩) W c1), (2, .slice ao ys.length cap), (3, .func (.func fq) #[.pointer (some ⟨bc, 0, none⟩)] #[])]) ?_ ?_
  · skip
    refine c_draw mixed [0, 0, 0, 0, 0, 0, 0, 0, 0, 0, 2] 11 rfl [((0, 2), [((1, 2), [((2, 2), [((3, 2), [((4, 1), [((5, 2), [((6, 2), [((7, 2), [((8, 2), [((9, 2), [((10, 0), ())])])])])])])])])])])] (by kernel_rfl) (by kernel_rfl) ?_
    refine w_p rfl (fun _ _ => ok_move (v := .slice _ _ _) rfl ⟨rfl, rfl, rfl⟩) ?_
    refine w_p rfl (fun _ _ => ok_move (v := .int _ _) rfl ⟨rfl, rfl, rfl⟩) ?_
    refine w_p rfl (fun _ _ => ok_quo rfl rfl (by omega) (by omega) (by omega) ⟨rfl, rfl, rfl⟩) ?_
    refine w_p rfl (fun _ _ => ok_indexAddr (sl rfl) (ty rfl) rfl rfl (by omega) (by omega) (off := (i * W + i / 64)) (by omega) ⟨rfl, rfl, rfl⟩) ?_
    refine w_r rfl (fun _ _ hExt => ok_load (ty rfl) rfl (hExt _ _ (hS.own _ _ hb)) (hF (i * W + i / 64) (by omega)) ⟨rfl, rfl, rfl⟩) ?_
    refine w_p rfl (fun _ _ => ok_move (v := .int _ _) rfl ⟨rfl, rfl, rfl⟩) ?_
    refine w_p rfl (fun _ _ => ok_rem rfl rfl (by omega) (by omega) ⟨rfl, rfl, rfl⟩) ?_
    refine w_p rfl (fun _ _ => ok_shl rfl rfl (by omega) ⟨rfl, rfl, rfl⟩) ?_
    refine w_p rfl (fun _ _ => ok_or rfl rfl ⟨rfl, rfl, rfl⟩) ?_
    refine w_p rfl (fun _ _ => ok_indexAddr (sl rfl) (ty rfl) rfl rfl (by omega) (by omega) (off := (i * W + i / 64)) (by omega) ⟨rfl, rfl, rfl⟩) ?_
    refine w_e0 rfl (ok_store (ty rfl) rfl (v := .int _ _) rfl rfl (hS.own _ _ hb) (by omega) ⟨trivial, ?_⟩)
    refine w_nil ?_
    refine n_then ⟨rfl, ⟨_, fun k => if k = i * W + i / 64 then or64 (F k) (shl64 1 ((i % 64 : Nat) : Int)) else F k, hS.set hb _, by rw [setA_size]; exact hz, fun k hk => ?_, fun j x hj hji hx => ?_, fun x hx => ?_⟩, rfl, rfl, rfl, trivial⟩
    · rw [setA_size] at hk
      by_cases e : k = i * W + i / 64
      · subst e; rw [setA_same _ _ (by omega)]; simp
      · rw [setA_ne _ _ (fun e2 => e e2.symm), hF k hk]; simp [e]
    · have hdx := hdiv x hx
      have hap := row_apart (W := W) hji
      unfold bit
      have : ¬ j * W + x / 64 = i * W + i / 64 := by omega
      simp only [this, if_false]
    · have hrx := hrow x hx
      unfold bit at hrx ⊢
      by_cases e : i * W + x / 64 = i * W + i / 64
      · simp only [e, if_true]
        rw [bit_or, bit_shl (by omega) (by omega)]
        rw [e] at hrx
        rw [hrx]
        simp only [Bool.false_or, decide_eq_true_eq, List.not_mem_nil, false_and, exists_false, or_false]
        omega
      · simp only [e, if_false]
        rw [hrx]
        simp only [Bool.false_eq_true, List.not_mem_nil, false_and, exists_false, or_false, false_iff]
        intro h2; exact e (by rw [h2])
  rintro E h1 N1 D ⟨rfl, ⟨cs1, F1, hS1, hz1, hF1, hoth, hU⟩, hE⟩
  obtain ⟨E0, rfl⟩ := hE.ex
  refine n_then ?_
  refine c_seq ?_
  refine c_region (by kernel_rfl) ?_
  refine st_q (ok_move (v := .slice _ _ _) rfl ⟨rfl, rfl, rfl⟩) ?_
  refine st_q (ok_len (sl rfl) rfl ⟨rfl, rfl, rfl⟩) ?_
  refine st_q (ok_move (v := .int _ _) rfl ⟨rfl, rfl, rfl⟩) ?_
  refine o_nil ?_
  refine n_then ?_
  refine c_block ?_
  refine c_loop (fun k E h' _ D => D = [] ∧ k ≤ ys.length ∧ (∃ cs' F', Sep (hset m rb (.cells cs' 85 (0, 0))) X h' ∧ cs'.size = n * W ∧ Wd cs' F' ∧ (∀ j x, j < n → j ≠ i → x < n → bit W F' j x = bit W F j x) ∧ UInv S i n (ys.take (ys.length - k)) (bit W F' i)) ∧ Fr E [(0, .slice (some ⟨rb, i * W, none⟩) W c1), (3, .func (.func fq) #[.pointer (some ⟨bc, 0, none⟩)] #[]), (20, .slice ao ys.length cap), (21, .int .i64 (ys.length : Int)), (22, .int .i64 ((ys.length - k : Nat) : Int))]) (k := ys.length) ⟨rfl, Nat.le_refl _, ⟨cs1, F1, hS1, hz1, hF1, hoth, by rw [Nat.sub_self]; exact hU⟩, rfl, rfl, rfl, rfl, by rw [Nat.sub_self]; rfl, trivial⟩ ?_
  clear hS hb hF hz hS1 hz1 hF1 hoth hU hrow
  rintro k E h2 N2 D ⟨rfl, hk, ⟨cs', F', hS, hz, hF, hoth, hU⟩, hE⟩
  obtain ⟨E1, rfl⟩ := hE.ex
  have hb := hset_same m rb (.cells cs' 85 (0, 0))
  refine c_seq ?_
  refine c_region (by kernel_rfl) ?_
  refine st_q (ok_lss rfl rfl ⟨rfl, rfl, rfl⟩) ?_
  refine o_nil ?_
  refine n_then ?_
  refine c_seq ?_
  refine c_cond_prop rfl (fun hc => ?_) (fun hc => ?_)
  · skip
    generalize hq : ys.length - k = q at *
    have hql : q < ys.length := by omega
    have hgq := List.getElem?_eq_getElem hql
    generalize hj : ys[q] = j at *
    obtain ⟨bY, cY, rfl, gY, gq⟩ := hr q j hgq
    have hjm := List.mem_of_getElem? hgq
    obtain ⟨hjn, hji⟩ := hys j hjm
    have hdj := hdiv j hjn
    have htk : ys.take (q + 1) = ys.take q ++ [j] := by rw [List.take_add_one, hgq]; rfl
    refine c_skip ?_
    refine n_then ?_
    refine c_seq ?_
    refine c_block ?_
    refine c_seq ?_
    refine c_region (by kernel_rfl) ?_
    refine st_q (ok_indexAddr (sl rfl) (ty rfl) rfl rfl (by omega) (by omega) (off := q) (by omega) ⟨rfl, rfl, rfl⟩) ?_
    refine st_q (ok_load (ty rfl) rfl (hS.oth _ _ gY) gq ⟨rfl, rfl, rfl⟩) ?_
    refine st_q (ok_assign (v := .int _ _) rfl ⟨rfl, rfl, rfl⟩) ?_
    refine o_nil ?_
    refine n_then ?_
    refine c_seq ?_
    refine c_cut (fun E h' N' D => D = [] ∧ h' = h2 ∧ N' = N2 ∧ Fr E [(0, .slice (some ⟨rb, i * W, none⟩) W c1), (3, .func (.func fq) #[.pointer (some ⟨bc, 0, none⟩)] #[]), (9, .int .i64 (j : Int)), (20, .slice (some ⟨bY, 0, none⟩) ys.length cap), (21, .int .i64 (ys.length : Int)), (22, .int .i64 (q : Int)), (35, .bool (decide (and64 (F' (i * W + j / 64)) (shl64 1 ((j % 64 : Nat) : Int)) = 0)))]) ?_ ?_
    · skip
      refine c_draw mixed [] 10 rfl [((0, 2), [((1, 2), [((2, 2), [((3, 2), [((4, 1), [((5, 2), [((6, 2), [((7, 2), [((8, 2), [((9, 2), ())])])])])])])])])])] (by kernel_rfl) (by kernel_rfl) ?_
      refine w_p rfl (fun _ _ => ok_move (v := .slice _ _ _) rfl ⟨rfl, rfl, rfl⟩) ?_
      refine w_p rfl (fun _ _ => ok_move (v := .int _ _) rfl ⟨rfl, rfl, rfl⟩) ?_
      refine w_p rfl (fun _ _ => ok_quo rfl rfl (by omega) (by omega) (by omega) ⟨rfl, rfl, rfl⟩) ?_
      refine w_p rfl (fun _ _ => ok_indexAddr (sl rfl) (ty rfl) rfl rfl (by omega) (by omega) (off := (i * W + j / 64)) (by omega) ⟨rfl, rfl, rfl⟩) ?_
      refine w_r rfl (fun _ _ hExt => ok_load (ty rfl) rfl (hExt _ _ (hS.own _ _ hb)) (hF (i * W + j / 64) (by omega)) ⟨rfl, rfl, rfl⟩) ?_
      refine w_p rfl (fun _ _ => ok_move (v := .int _ _) rfl ⟨rfl, rfl, rfl⟩) ?_
      refine w_p rfl (fun _ _ => ok_rem rfl rfl (by omega) (by omega) ⟨rfl, rfl, rfl⟩) ?_
      refine w_p rfl (fun _ _ => ok_shl rfl rfl (by omega) ⟨rfl, rfl, rfl⟩) ?_
      refine w_p rfl (fun _ _ => ok_and rfl rfl ⟨rfl, rfl, rfl⟩) ?_
      refine w_p rfl (fun _ _ => ok_eql rfl rfl ⟨rfl, rfl, rfl⟩) ?_
      refine w_nil ?_
      exact n_then ⟨rfl, rfl, rfl, rfl, rfl, rfl, rfl, rfl, rfl, rfl, trivial⟩
    rintro E h3 N3 D ⟨rfl, rfl, rfl, hE⟩
    obtain ⟨E2, rfl⟩ := hE.ex
    refine n_then ?_
    have hlast : ∀ z : Nat, z = q → Value.int .i64 ((z : Int) + 1) = .int .i64 ((ys.length - (k - 1) : Nat) : Int) := fun z hz => by congr 1; omega
    refine c_cond_prop rfl (fun hc2 => ?_) (fun hc2 => ?_)
    · skip
      have hap := row_apart (W := W) (fun e => hji e.symm : i ≠ j)
      have hrj := row_in (W := W) hjn
      refine c_region (by kernel_rfl) ?_
      refine st_q (ok_move (v := .slice _ _ _) rfl ⟨rfl, rfl, rfl⟩) ?_
      refine st_q (ok_move (v := .func _ _ _) rfl ⟨rfl, rfl, rfl⟩) ?_
      refine st_q (ok_move (v := .int _ _) rfl ⟨rfl, rfl, rfl⟩) ?_
      refine st (ok_call rfl he (hof _ _ j hS.oth hjn) rfl ?_); rintro _ h4 N4 ⟨rfl, rfl, rfl⟩
      refine st (ok_call rfl ent57 (orInto_ok (hS.own _ _ hb) hF (by omega) (by omega) (by omega) hW) rfl ?_)
      rintro _ h5 N5 ⟨rfl, rfl, cs5, F5, rfl, hz5, hF5, hin5, hout5⟩
      refine o_nil ?_
      refine n_block (n_then ?_)
      refine c_region (by kernel_rfl) ?_
      refine st_q (ok_add rfl rfl (by omega) (by omega) ⟨rfl, rfl, rfl⟩) ?_
      refine st_q (ok_move (v := .int _ _) rfl ⟨rfl, rfl, rfl⟩) ?_
      refine o_nil ?_
      have hS5 := hS.set hb (.cells cs5 85 (0, 0))
      rw [hset_hset m] at hS5
      refine n_then ⟨k - 1, by omega, rfl, by omega, ⟨cs5, F5, hS5, by omega, hF5, fun y x hy hyi hx => ?_, ?_⟩, rfl, rfl, rfl, rfl, hlast q rfl, trivial⟩
      · have hdx := hdiv x hx
        have hap2 := row_apart (W := W) hyi
        rw [← hoth y x hy hyi hx]
        unfold bit
        rw [hout5 _ (by omega)]
      · rw [show ys.length - (k - 1) = q + 1 from by omega, htk]
        have hU2 := hU.take (j := j) (C := bit W F' j) (fun x hx => by rw [hoth j x hjn hji hx]; exact hdone j hjm x hx)
        intro x hx
        have hdx := hdiv x hx
        have hb5 : bit W F5 i x = (bit W F' i x || bit W F' j x) := by
          unfold bit
          rw [hin5 _ hdx, bit_or]
        rw [hb5]
        exact hU2 x hx
    · skip
      refine c_skip ?_
      refine n_block (n_then ?_)
      refine c_region (by kernel_rfl) ?_
      refine st_q (ok_add rfl rfl (by omega) (by omega) ⟨rfl, rfl, rfl⟩) ?_
      refine st_q (ok_move (v := .int _ _) rfl ⟨rfl, rfl, rfl⟩) ?_
      refine o_nil ?_
      refine n_then ⟨k - 1, by omega, rfl, by omega, ⟨cs', F', hS, hz, hF, hoth, ?_⟩, rfl, rfl, rfl, rfl, hlast q rfl, trivial⟩
      rw [show ys.length - (k - 1) = q + 1 from by omega, htk]
      refine hU.skip hjn ?_ hji
      have h3 : ¬ bit W F' i j = false := fun e => hc2 ((and_zero _ (by omega)).2 e)
      simpa using h3
  · skip
    refine c_exit ?_
    refine x_then (x_then (x_block ?_))
    have hk0 : k = 0 := by omega
    subst hk0
    rw [Nat.sub_zero, List.take_length] at hU
    exact n_leave (leave_none rfl ⟨rfl, cs', F', hS, hz, hF, hoth, hU⟩)
end
end Sx
end Go.Proofs.YbulkcsqkGreat
