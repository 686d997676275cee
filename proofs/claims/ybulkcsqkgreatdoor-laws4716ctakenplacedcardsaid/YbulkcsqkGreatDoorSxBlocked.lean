import Derived.Test.YbulkcsqkGreatDoorSxGrid
namespace Go.Proofs.YbulkcsqkGreatDoor
namespace Sx
set_option maxRecDepth 10000
variable {w0 : World}

def zero76 : Array Value := #[.int .i64 0, .int .i64 0, .int .i64 0, .int .i64 0]

section
variable {h : Hp} {N N0 br bt bpl bs bp n m ct cp p0 : Nat} {rc tc pl : Array Value} {tt tp : TypeId} {ft fp : Nat × Nat} {fa fb : Nat → Nat} {V : Nat → Value} {ao : Option Addr}

/-- What is known within a round. -/
structure Mid (h0 h : Hp) (N0 br bs bp n eb cb : Nat) (rc : Array Value) (p a b : Nat) (V : Nat → Value) (S : Nat → List Nat) : Prop where
  keep : Keep N0 br bs bp h0 h
  blk : Blk h N0 br bs bp n rc p V S
  e : h eb = some (.cells #[.int .i64 a, .int .i64 b] 74 (0, 0))
  c : h cb = some (.cells zero76 76 (0, 0))
  eN : ∀ l, l < n + n → Sx.blk (V l) ≠ some eb
  cN : ∀ l, l < n + n → Sx.blk (V l) ≠ some cb
  eo : N0 ≤ eb
  co : N0 ≤ cb
theorem Mid.ext {h0 h h' : Hp} {N0 br bs bp n eb cb p a b : Nat} {rc : Array Value} {V : Nat → Value} {S : Nat → List Nat} (hm : Mid h0 h N0 br bs bp n eb cb rc p a b V S) (hx : Ext h h') : Mid h0 h' N0 br bs bp n eb cb rc p a b V S :=
  ⟨hm.keep.ext hx, hm.blk.ext hx, hx _ _ hm.e, hx _ _ hm.c, hm.eN, hm.cN, hm.eo, hm.co⟩
theorem Mid.row_s {h0 h : Hp} {N N' N0 br bs bp n eb cb p a b b' n' c' : Nat} {rc cs' vs : Array Value} {V : Nat → Value} {S : Nat → List Nat} (hm : Mid h0 h N0 br bs bp n eb cb rc p a b V S) (ha : a < n) (hc : Grown h N b' N' (V a)) (hs : cs'.size = c' * 1) (hn : n' ≤ c') (hl : (ints (S a) ++ [Value.int .i64 (b : Int)]).length = n' * 1) (ht : cs'.toList.take (n' * 1) = ints (S a) ++ [Value.int .i64 (b : Int)])
    (hv : h bs = some (.cells vs 25 (0, 0))) :
    Mid h0 (hset (hset h b' (.cells cs' 3 (0, 0))) bs (.cells (setA vs a (.slice (some ⟨b', 0, none⟩) n' c')) 25 (0, 0))) N0 br bs bp n eb cb rc p a b (vp V a (.slice (some ⟨b', 0, none⟩) n' c')) (ap S a b) := by
  have ho := hc.old hm.blk (by omega)
  have e1 := hc.ne hm.e (hm.eN a (by omega))
  have e2 := hc.ne hm.c (hm.cN a (by omega))
  have ls := hm.blk.ls
  have h1 := hm.eo
  have h2 := hm.co
  refine ⟨(hm.keep.set (.inl ho) _).set (by omega) _, hm.blk.row_s ha hc hs hn hl ht hv, ?_, ?_, apart_vp hm.eN e1, apart_vp hm.cN e2, h1, h2⟩
  · rw [hset_ne _ _ (by omega), hset_ne _ _ e1]; exact hm.e
  · rw [hset_ne _ _ (by omega), hset_ne _ _ e2]; exact hm.c
theorem Mid.row_p {h0 h : Hp} {N N' N0 br bs bp n eb cb p a b b' n' c' : Nat} {rc cs' us : Array Value} {V : Nat → Value} {S : Nat → List Nat} (hm : Mid h0 h N0 br bs bp n eb cb rc p a b V S) (hb : b < n) (hc : Grown h N b' N' (V (n + b))) (hs : cs'.size = c' * 1) (hn : n' ≤ c') (hl : (ints (S (n + b)) ++ [Value.int .i64 (a : Int)]).length = n' * 1) (ht : cs'.toList.take (n' * 1) = ints (S (n + b)) ++ [Value.int .i64 (a : Int)])
    (hv : h bp = some (.cells us 25 (0, 0))) :
    Mid h0 (hset (hset h b' (.cells cs' 3 (0, 0))) bp (.cells (setA us b (.slice (some ⟨b', 0, none⟩) n' c')) 25 (0, 0))) N0 br bs bp n eb cb rc p a b (vp V (n + b) (.slice (some ⟨b', 0, none⟩) n' c')) (ap S (n + b) a) := by
  have ho := hc.old hm.blk (by omega)
  have e1 := hc.ne hm.e (hm.eN (n + b) (by omega))
  have e2 := hc.ne hm.c (hm.cN (n + b) (by omega))
  have lp := hm.blk.lp
  have h1 := hm.eo
  have h2 := hm.co
  refine ⟨(hm.keep.set (.inl ho) _).set (by omega) _, hm.blk.row_p hb hc hs hn hl ht hv, ?_, ?_, apart_vp hm.eN e1, apart_vp hm.cN e2, h1, h2⟩
  · rw [hset_ne _ _ (by omega), hset_ne _ _ e1]; exact hm.e
  · rw [hset_ne _ _ (by omega), hset_ne _ _ e2]; exact hm.c

theorem Sst_len (n k : Nat) (fa fb : Nat → Nat) (c l : Nat) : (Sst n k fa fb c l).length ≤ 2 * c := by
  induction c with
  | zero => simp [Sst]
  | succ c ih =>
    simp only [Sst, ap]
    split
    · split
      · rename_i h1 h2; rw [h1] at ih; rw [h2] at ih; simp; omega
      · rename_i h1 h2; rw [h1] at ih; simp; omega
    · split
      · rename_i h1 h2; rw [h2] at ih; simp; omega
      · omega

theorem blocked_ok (hB : Blk h N0 br bs bp n rc p0 V (fun _ => [])) (hsz : rc.size = 83) (f39 : rc[39]? = some (.slice ao m ct)) (hao : 0 < m → ao = some ⟨bt, 0, none⟩) (f54 : rc[54]? = some (.slice (some ⟨bs, 0, none⟩) n n)) (f55 : rc[55]? = some (.slice (some ⟨bp, 0, none⟩) n n))
    (f51 : rc[51]? = some (.slice (some ⟨bpl, 0, none⟩) n cp)) (f57 : rc[57]? = some (.slice none 0 0)) (hp : h bpl = some (.cells pl tp fp)) (hv : ∀ i, i < n → pl[i]? = some (.int .i64 (i : Int)))
    (ht : 0 < m → h bt = some (.cells tc tt ft)) (hts : m * 2 ≤ tc.size) (htv : ∀ j, j < m → (tc.toList.drop (0 + j * 2)).take 2 = [.int .i64 (fa j), .int .i64 (fb j)]) (hf : ∀ j, j < m → fa j < fb j ∧ fb j < n)
    (hbt : 0 < m → bt < N0 ∧ bt ≠ br ∧ bt ≠ bs ∧ bt ≠ bp) (hbpl : bpl < N0 ∧ bpl ≠ br ∧ bpl ≠ bs ∧ bpl ≠ bp) (hn : n ≤ 100000) (hm : m ≤ 100000) (hp0 : p0 ≤ m) :
    CallsX Ybaz.prog w0 5 #[.pointer (some ⟨br, 0, none⟩)] h N (fun v h' _ => v = .tuple #[.agg zero76, .bool false] ∧ Keep N0 br bs bp h h' ∧ ∃ V', Blk h' N0 br bs bp n rc m V' (Sst n p0 fa fb (m - p0))) := by
  have gg : ∀ (p i : Nat) (v : Value), 56 ≠ i → rc[i]? = some v → (setA rc 56 (.int .i64 (p : Int)))[0 + i]? = some v := by
    intro p i v h1 h2
    rw [Nat.zero_add, setA_ne _ _ h1]; exact h2
  have gp : ∀ (p : Nat), (setA rc 56 (.int .i64 (p : Int)))[0 + 56]? = some (.int .i64 (p : Int)) := fun p => by
    rw [Nat.zero_add, setA_same _ _ (by omega)]
  refine calls_of Ybaz.func5 rfl Ybaz.ntmps5 (Nat.le_of_ble_eq_true rfl) ?_
  refine c_seq ?_
  refine c_region (by kernel_rfl) ?_
  refine st (ok_alloc (ty rfl) rfl (fun hN2 => ?_))
  refine st_q (ok_assign (v := .bool _) rfl ⟨rfl, rfl, rfl⟩) ?_
  refine o_nil ?_
  refine n_then ?_
  refine c_seq ?_
  refine c_block ?_
  refine c_loop (fun k E h' _ D => D = [] ∧ Fr E [(0, .pointer (some ⟨br, 0, none⟩)), (2, .pointer (some ⟨N, 0, none⟩)), (3, .bool false)] ∧ ∃ c V', k = m - (p0 + c) ∧ p0 + c ≤ m ∧ Keep N0 br bs bp h h' ∧ Blk h' N0 br bs bp n rc (p0 + c) V' (Sst n p0 fa fb c) ∧ h' N = some (.cells zero76 76 (0, 0)) ∧ ∀ l, l < n + n → blk (V' l) ≠ some N) (k := m - p0)
    ⟨rfl, ⟨rfl, rfl, rfl, trivial⟩, 0, V, rfl, hp0, Keep.ext (fun _ _ _ _ _ _ e => e) (Ext.push hN2 _), hB.ext (Ext.push hN2 _), hset_same _ _ _, apart_old hB.g (.inr (hN2 _ (Nat.le_refl _)))⟩ ?_
  have hlow := hB.low hN2
  rintro k E h1 N1 D ⟨rfl, hE, c, V1, rfl, hc, hk1, hB1, hz1, hzN⟩
  obtain ⟨E0, rfl⟩ := hE.ex
  have hr1 := hB1.r
  refine c_seq ?_
  refine c_seq ?_
  refine c_draw mixed [] 10 rfl [((0, 2), [((1, 2), [((2, 2), [((3, 1), [((4, 2), [((5, 2), [((6, 2), [((7, 1), [((8, 2), [((9, 2), ())])])])])])])])])])] (by kernel_rfl) (by kernel_rfl) ?_
  refine w_p rfl (fun _ _ => ok_move (v := .pointer _) rfl ⟨rfl, rfl, rfl⟩) ?_
  refine w_p rfl (fun _ _ => ok_nilCheck_ptr rfl ⟨rfl, rfl, rfl⟩) ?_
  refine w_p rfl (fun _ _ => ok_fieldAddr (fld rfl) rfl ⟨rfl, rfl, rfl⟩) ?_
  refine w_r rfl (fun _ _ hExt => ok_load (ty rfl) rfl (hExt _ _ hr1) (gp _) ⟨rfl, rfl, rfl⟩) ?_
  refine w_p rfl (fun _ _ => ok_move (v := .pointer _) rfl ⟨rfl, rfl, rfl⟩) ?_
  refine w_p rfl (fun _ _ => ok_nilCheck_ptr rfl ⟨rfl, rfl, rfl⟩) ?_
  refine w_p rfl (fun _ _ => ok_fieldAddr (fld rfl) rfl ⟨rfl, rfl, rfl⟩) ?_
  refine w_r rfl (fun _ _ hExt => ok_load (ty rfl) rfl (hExt _ _ hr1) (gg _ _ _ (by decide) f39) ⟨rfl, rfl, rfl⟩) ?_
  refine w_p rfl (fun _ _ => ok_len (sl rfl) rfl ⟨rfl, rfl, rfl⟩) ?_
  refine w_p rfl (fun _ _ => ok_lss rfl rfl ⟨rfl, rfl, rfl⟩) ?_
  refine w_nil ?_
  refine n_then ?_
  refine c_cond_prop rfl (fun hc => ?_) (fun hc => ?_)
  · skip
    have hlt : p0 + c < m := by omega
    obtain ⟨hab, hbn⟩ := hf _ hlt
    have hm0 : 0 < m := by omega
    obtain rfl := hao hm0
    have hbt := hbt hm0
    have ht1 := hk1 _ _ hbt.1 hbt.2.1 hbt.2.2.1 hbt.2.2.2 (ht hm0)
    refine c_skip ?_
    refine n_then ?_
    refine c_seq ?_
    refine c_block ?_
    refine c_seq ?_
    refine c_draw mixed [0, 0, 0, 0, 0, 0, 0, 0, 0, 0, 1, 2] 12 rfl [((0, 2), [((1, 2), [((2, 2), [((3, 1), [((4, 2), [((5, 2), [((6, 2), [((7, 1), [((8, 2), [((9, 1), [((10, 0), [((11, 0), ())])])])])])])])])])])])] (by kernel_rfl) (by kernel_rfl) ?_
    refine w_p rfl (fun _ _ => ok_move (v := .pointer _) rfl ⟨rfl, rfl, rfl⟩) ?_
    refine w_p rfl (fun _ _ => ok_nilCheck_ptr rfl ⟨rfl, rfl, rfl⟩) ?_
    refine w_p rfl (fun _ _ => ok_fieldAddr (fld rfl) rfl ⟨rfl, rfl, rfl⟩) ?_
    refine w_r rfl (fun _ _ hExt => ok_load (ty rfl) rfl (hExt _ _ hr1) (gg _ _ _ (by decide) f39) ⟨rfl, rfl, rfl⟩) ?_
    refine w_p rfl (fun _ _ => ok_move (v := .pointer _) rfl ⟨rfl, rfl, rfl⟩) ?_
    refine w_p rfl (fun _ _ => ok_nilCheck_ptr rfl ⟨rfl, rfl, rfl⟩) ?_
    refine w_p rfl (fun _ _ => ok_fieldAddr (fld rfl) rfl ⟨rfl, rfl, rfl⟩) ?_
    refine w_r rfl (fun _ _ hExt => ok_load (ty rfl) rfl (hExt _ _ hr1) (gp _) ⟨rfl, rfl, rfl⟩) ?_
    refine w_p rfl (fun _ _ => ok_indexAddr (sl rfl) (ty rfl) rfl rfl (by omega) (by omega) (off := (0 + (p0 + c) * 2)) (by omega) ⟨rfl, rfl, rfl⟩) ?_
    refine w_r rfl (fun _ _ hExt => ok_loadAgg (ty rfl) rfl (hExt _ _ ht1) (by omega) (htv _ hlt) ⟨rfl, rfl, rfl⟩) ?_
    refine w_e rfl (ok_alloc (ty rfl) rfl (fun hN4 => ⟨.inr ⟨_, rfl, rfl⟩, ?_⟩))
    refine w_e0 rfl (ok_storeL (ty rfl) rfl (v := .agg _) rfl rfl rfl rfl (hset_same _ _ _) (Nat.le_of_ble_eq_true rfl) ⟨trivial, ?_⟩)
    refine w_nil ?_
    refine n_then ?_
    refine c_heap (fun h' _ => Mid h h' N0 br bs bp n N1 N rc (p0 + c) (fa (p0 + c)) (fb (p0 + c)) V1 (Sst n p0 fa fb c)) ?_ ?_
    · have hx : Ext h1 (hset h1 N1 (.cells #[.int .i64 (fa (p0 + c)), .int .i64 (fb (p0 + c))] 74 (0, 0))) := Ext.push hN4 _
      have hq : hset (hset h1 N1 (Obj.cells #[Value.int .i64 0, Value.int .i64 0] 74 (0, 0))) N1 (.cells #[.int .i64 (fa (p0 + c)), .int .i64 (fb (p0 + c))] 74 (0, 0)) = hset h1 N1 (.cells #[.int .i64 (fa (p0 + c)), .int .i64 (fb (p0 + c))] 74 (0, 0)) := hset_hset _ _ _ _
      refine Eq.mpr (congrArg (fun x => Mid h x N0 br bs bp n N1 N rc (p0 + c) (fa (p0 + c)) (fb (p0 + c)) V1 (Sst n p0 fa fb c)) hq) ?_
      exact ⟨hk1.ext hx, hB1.ext hx, hset_same _ _ _, hx _ _ hz1, apart_old hB1.g (.inr (hN4 _ (Nat.le_refl _))), hzN, hB1.low hN4, hlow⟩
    intro h2 N2 hM2
    have hr2 := hM2.blk.r
    have hp2 := hM2.keep _ _ hbpl.1 hbpl.2.1 hbpl.2.2.1 hbpl.2.2.2 hp
    refine c_seq ?_
    refine c_block ?_
    refine c_loop1 ?_
    refine c_block ?_
    refine c_seq ?_
    refine c_region (by kernel_rfl) ?_
    refine st_q (ok_move (v := .pointer _) rfl ⟨rfl, rfl, rfl⟩) ?_
    refine st_q (ok_loadAgg (ty rfl) rfl hM2.e (Nat.le_of_ble_eq_true rfl) rfl ⟨rfl, rfl, rfl⟩) ?_
    refine st (ok_call rfl ent7 (fit_ok hr2 (gg _ _ _ (by decide) f51) hp2 hv hab hbn hn) rfl ?_)
    rintro _ h3 N3 ⟨rfl, hx3⟩
    refine st_q (ok_move (v := .tuple _) rfl ⟨rfl, rfl, rfl⟩) ?_
    refine st_q (ok_extract rfl rfl ⟨rfl, rfl, rfl⟩) ?_
    refine st_q (ok_extract rfl rfl ⟨rfl, rfl, rfl⟩) ?_
    refine st_q (ok_assign (v := .slice _ _ _) rfl ⟨rfl, rfl, rfl⟩) ?_
    refine st_q (ok_assign (v := .bool _) rfl ⟨rfl, rfl, rfl⟩) ?_
    refine o_nil ?_
    refine n_then ?_
    refine c_seq ?_
    refine c_seq ?_
    refine c_region (by kernel_rfl) ?_
    refine st_q (ok_move (v := .bool _) rfl ⟨rfl, rfl, rfl⟩) ?_
    refine o_nil ?_
    refine n_then ?_
    refine c_cond_true rfl ?_
    refine c_exit ?_
    refine x_then (x_block_ne (by decide) (x_then (x_block (n_then ?_))))
    refine c_seq ?_
    refine c_heap (fun h' _ => Mid h h' N0 br bs bp n N1 N rc (p0 + c) (fa (p0 + c)) (fb (p0 + c)) V1 (Sst n p0 fa fb c)) (hM2.ext hx3) ?_
    intro h4 N4 hM
    have hl := Sst_len n p0 fa fb c
    refine c_cut (fun E h' _ D => Fr E [(0, .pointer (some ⟨br, 0, none⟩)), (2, .pointer (some ⟨N, 0, none⟩)), (3, .bool false), (4, .pointer (some ⟨N1, 0, none⟩))] ∧ D = [] ∧ ∃ V', Mid h h' N0 br bs bp n N1 N rc (p0 + c) (fa (p0 + c)) (fb (p0 + c)) V' (ap (Sst n p0 fa fb c) (fa (p0 + c)) (fb (p0 + c)))) ?_ ?_
    · skip
      generalize fa (p0 + c) = a at *
      generalize fb (p0 + c) = b at *
      obtain ⟨vs, hs, hss, hsv⟩ := hM.blk.s
      have hva := hsv a (by omega)
      have hr := hM.blk.r
      have he := hM.e
      have own := hM.blk.g.own a (by omega)
      have g54 := gg (p0 + c) _ _ (by decide) f54
      have hla : (ints (Sst n p0 fa fb c a)).length ≤ 200000 := by have := hl a; simp only [ints, List.length_map]; omega
      refine c_draw mixed [0, 0, 0, 0, 0, 0, 0, 0, 0, 0, 0, 0, 0, 0, 0, 0, 1, 2, 0, 2] 20 rfl [((0, 2), [((1, 2), [((2, 2), [((4, 2), [((6, 2), [((7, 2), [((8, 2), [((9, 1), [((10, 2), [((11, 1), [((12, 2), [((13, 1), [((14, 2), [((15, 1), [((3, 0), [((5, 0), [((16, 0), [((17, 0), [((18, 2), [((19, 0), ())])])])]), ((16, 0), [((5, 0), [((17, 0), [((18, 2), [((19, 0), ())])])]), ((17, 0), [((5, 1), [((18, 2), [((19, 0), ())])])])])]), ((5, 0), [((3, 0), [((16, 0), [((17, 0), [((18, 2), [((19, 0), ())])])])]), ((16, 0), [((3, 0), [((17, 0), [((18, 2), [((19, 0), ())])])]), ((17, 0), [((3, 1), [((18, 2), [((19, 0), ())])])])])]), ((16, 0), [((3, 0), [((5, 0), [((17, 0), [((18, 2), [((19, 0), ())])])]), ((17, 0), [((5, 1), [((18, 2), [((19, 0), ())])])])]), ((5, 0), [((3, 0), [((17, 0), [((18, 2), [((19, 0), ())])])]), ((17, 0), [((3, 1), [((18, 2), [((19, 0), ())])])])]), ((17, 0), [((3, 1), [((5, 1), [((18, 2), [((19, 0), ())])])])])])])])])])])])])])])])])])])])] (by kernel_rfl) (by kernel_rfl) ?_
      refine w_p rfl (fun _ _ => ok_move (v := .pointer _) rfl ⟨rfl, rfl, rfl⟩) ?_
      refine w_p rfl (fun _ _ => ok_nilCheck_ptr rfl ⟨rfl, rfl, rfl⟩) ?_
      refine w_p rfl (fun _ _ => ok_fieldAddr (fld rfl) rfl ⟨rfl, rfl, rfl⟩) ?_
      refine w_p rfl (fun _ _ => ok_fieldAddr (fld rfl) rfl ⟨rfl, rfl, rfl⟩) ?_
      refine w_p rfl (fun _ _ => ok_move (v := .pointer _) rfl ⟨rfl, rfl, rfl⟩) ?_
      refine w_p rfl (fun _ _ => ok_nilCheck_ptr rfl ⟨rfl, rfl, rfl⟩) ?_
      refine w_p rfl (fun _ _ => ok_fieldAddr (fld rfl) rfl ⟨rfl, rfl, rfl⟩) ?_
      refine w_r rfl (fun _ _ hExt => ok_load (ty rfl) rfl (hExt _ _ hr) g54 ⟨rfl, rfl, rfl⟩) ?_
      refine w_p rfl (fun _ _ => ok_fieldAddr (fld rfl) rfl ⟨rfl, rfl, rfl⟩) ?_
      refine w_r rfl (fun _ _ hExt => ok_load (ty rfl) rfl (hExt _ _ he) (by rfl) ⟨rfl, rfl, rfl⟩) ?_
      refine w_p rfl (fun _ _ => ok_indexAddr (sl rfl) (ty rfl) rfl rfl (by omega) (by omega) (off := (0 + a)) (by omega) ⟨rfl, rfl, rfl⟩) ?_
      refine w_r rfl (fun _ _ hExt => ok_load (ty rfl) rfl (hExt _ _ hs) (by rw [Nat.zero_add]; exact hva) ⟨rfl, rfl, rfl⟩) ?_
      refine w_p rfl (fun _ _ => ok_fieldAddr (fld rfl) rfl ⟨rfl, rfl, rfl⟩) ?_
      refine w_r rfl (fun _ _ hExt => ok_load (ty rfl) rfl (hExt _ _ he) (by rfl) ⟨rfl, rfl, rfl⟩) ?_
      refine w_cons ?_ (w_cons ?_ (w_cons ?_ (w_none)))
      · skip
        refine w_e rfl (ok_load (ty rfl) rfl hr g54 ⟨⟨rfl, rfl⟩, ?_⟩)
        refine w_cons ?_ (w_cons ?_ (w_none))
        · skip
          refine w_e rfl (ok_load (ty rfl) rfl he (by rfl) ⟨⟨rfl, rfl⟩, ?_⟩)
          refine w_e rfl (ok_buildSlice (sl rfl) (ty rfl) rfl (vs := #[.int .i64 (b : Int)]) (by kernel_rfl) (by decide) (by decide) (fun hN66 => ⟨.inr ⟨_, rfl, rfl⟩, ?_⟩))
          have hM := hM.ext (Ext.push hN66 (.cells #[.int .i64 (b : Int)] 3 (0, 0)))
          have hr := hM.blk.r
          have he := hM.e
          have hs := Ext.push hN66 (.cells #[.int .i64 (b : Int)] 3 (0, 0)) _ _ hs
          have own := hM.blk.g.own a (by omega)
          have hnw := hset_same h4 N4 (.cells #[.int .i64 (b : Int)] 3 (0, 0))
          refine w_e rfl (ok_append rfl (sl rfl) (ty rfl) rfl rfl own rfl hnw (Nat.le_of_ble_eq_true rfl) (by simp [isOne]) (by decide) (by decide) (by omega) (by omega) (fun b' n' c' cs' N' hcase hcz hnc hln htk _ => ⟨trivial, ?_⟩)); have hG : Grown _ _ b' N' (V1 a) := hcase; have hr := (hset_ne _ (.cells cs' 3 (0, 0)) (hG.ne hr (apart_old hM.blk.g (.inl hM.blk.lr) a (by omega)))).trans hr; have he := (hset_ne _ (.cells cs' 3 (0, 0)) (hG.ne he (hM.eN a (by omega)))).trans he; have hs0 := hs; have hs := (hset_ne _ (.cells cs' 3 (0, 0)) (hG.ne hs (apart_old hM.blk.g (.inl hM.blk.ls) a (by omega)))).trans hs
          refine w_p rfl (fun _ _ => ok_indexAddr (sl rfl) (ty rfl) rfl rfl (by omega) (by omega) (off := a) (by omega) ⟨rfl, rfl, rfl⟩) ?_
          refine w_e0 rfl (ok_store (ty rfl) rfl (v := .slice _ _ _) rfl rfl hs (by omega) ⟨trivial, ?_⟩)
          refine w_nil ?_
          exact n_then ⟨⟨rfl, rfl, rfl, rfl, trivial⟩, rfl, _, hM.row_s (by omega) hG hcz hnc hln htk hs0⟩
        · skip
          refine w_e rfl (ok_buildSlice (sl rfl) (ty rfl) rfl (vs := #[.int .i64 (b : Int)]) (by kernel_rfl) (by decide) (by decide) (fun hN66 => ⟨.inr ⟨_, rfl, rfl⟩, ?_⟩))
          have hM := hM.ext (Ext.push hN66 (.cells #[.int .i64 (b : Int)] 3 (0, 0)))
          have hr := hM.blk.r
          have he := hM.e
          have hs := Ext.push hN66 (.cells #[.int .i64 (b : Int)] 3 (0, 0)) _ _ hs
          have own := hM.blk.g.own a (by omega)
          have hnw := hset_same h4 N4 (.cells #[.int .i64 (b : Int)] 3 (0, 0))
          refine w_cons ?_ (w_cons ?_ (w_none))
          · skip
            refine w_e rfl (ok_load (ty rfl) rfl he (by rfl) ⟨⟨rfl, rfl⟩, ?_⟩)
            refine w_e rfl (ok_append rfl (sl rfl) (ty rfl) rfl rfl own rfl hnw (Nat.le_of_ble_eq_true rfl) (by simp [isOne]) (by decide) (by decide) (by omega) (by omega) (fun b' n' c' cs' N' hcase hcz hnc hln htk _ => ⟨trivial, ?_⟩)); have hG : Grown _ _ b' N' (V1 a) := hcase; have hr := (hset_ne _ (.cells cs' 3 (0, 0)) (hG.ne hr (apart_old hM.blk.g (.inl hM.blk.lr) a (by omega)))).trans hr; have he := (hset_ne _ (.cells cs' 3 (0, 0)) (hG.ne he (hM.eN a (by omega)))).trans he; have hs0 := hs; have hs := (hset_ne _ (.cells cs' 3 (0, 0)) (hG.ne hs (apart_old hM.blk.g (.inl hM.blk.ls) a (by omega)))).trans hs
            refine w_p rfl (fun _ _ => ok_indexAddr (sl rfl) (ty rfl) rfl rfl (by omega) (by omega) (off := a) (by omega) ⟨rfl, rfl, rfl⟩) ?_
            refine w_e0 rfl (ok_store (ty rfl) rfl (v := .slice _ _ _) rfl rfl hs (by omega) ⟨trivial, ?_⟩)
            refine w_nil ?_
            exact n_then ⟨⟨rfl, rfl, rfl, rfl, trivial⟩, rfl, _, hM.row_s (by omega) hG hcz hnc hln htk hs0⟩
          · skip
            refine w_e rfl (ok_append rfl (sl rfl) (ty rfl) rfl rfl own rfl hnw (Nat.le_of_ble_eq_true rfl) (by simp [isOne]) (by decide) (by decide) (by omega) (by omega) (fun b' n' c' cs' N' hcase hcz hnc hln htk _ => ⟨trivial, ?_⟩)); have hG : Grown _ _ b' N' (V1 a) := hcase; have hr := (hset_ne _ (.cells cs' 3 (0, 0)) (hG.ne hr (apart_old hM.blk.g (.inl hM.blk.lr) a (by omega)))).trans hr; have he := (hset_ne _ (.cells cs' 3 (0, 0)) (hG.ne he (hM.eN a (by omega)))).trans he; have hs0 := hs; have hs := (hset_ne _ (.cells cs' 3 (0, 0)) (hG.ne hs (apart_old hM.blk.g (.inl hM.blk.ls) a (by omega)))).trans hs
            refine w_r rfl (fun _ _ hExt => ok_load (ty rfl) rfl (hExt _ _ he) (by rfl) ⟨rfl, rfl, rfl⟩) ?_
            refine w_p rfl (fun _ _ => ok_indexAddr (sl rfl) (ty rfl) rfl rfl (by omega) (by omega) (off := a) (by omega) ⟨rfl, rfl, rfl⟩) ?_
            refine w_e0 rfl (ok_store (ty rfl) rfl (v := .slice _ _ _) rfl rfl hs (by omega) ⟨trivial, ?_⟩)
            refine w_nil ?_
            exact n_then ⟨⟨rfl, rfl, rfl, rfl, trivial⟩, rfl, _, hM.row_s (by omega) hG hcz hnc hln htk hs0⟩
      · skip
        refine w_e rfl (ok_load (ty rfl) rfl he (by rfl) ⟨⟨rfl, rfl⟩, ?_⟩)
        refine w_cons ?_ (w_cons ?_ (w_none))
        · skip
          refine w_e rfl (ok_load (ty rfl) rfl hr g54 ⟨⟨rfl, rfl⟩, ?_⟩)
          refine w_e rfl (ok_buildSlice (sl rfl) (ty rfl) rfl (vs := #[.int .i64 (b : Int)]) (by kernel_rfl) (by decide) (by decide) (fun hN66 => ⟨.inr ⟨_, rfl, rfl⟩, ?_⟩))
          have hM := hM.ext (Ext.push hN66 (.cells #[.int .i64 (b : Int)] 3 (0, 0)))
          have hr := hM.blk.r
          have he := hM.e
          have hs := Ext.push hN66 (.cells #[.int .i64 (b : Int)] 3 (0, 0)) _ _ hs
          have own := hM.blk.g.own a (by omega)
          have hnw := hset_same h4 N4 (.cells #[.int .i64 (b : Int)] 3 (0, 0))
          refine w_e rfl (ok_append rfl (sl rfl) (ty rfl) rfl rfl own rfl hnw (Nat.le_of_ble_eq_true rfl) (by simp [isOne]) (by decide) (by decide) (by omega) (by omega) (fun b' n' c' cs' N' hcase hcz hnc hln htk _ => ⟨trivial, ?_⟩)); have hG : Grown _ _ b' N' (V1 a) := hcase; have hr := (hset_ne _ (.cells cs' 3 (0, 0)) (hG.ne hr (apart_old hM.blk.g (.inl hM.blk.lr) a (by omega)))).trans hr; have he := (hset_ne _ (.cells cs' 3 (0, 0)) (hG.ne he (hM.eN a (by omega)))).trans he; have hs0 := hs; have hs := (hset_ne _ (.cells cs' 3 (0, 0)) (hG.ne hs (apart_old hM.blk.g (.inl hM.blk.ls) a (by omega)))).trans hs
          refine w_p rfl (fun _ _ => ok_indexAddr (sl rfl) (ty rfl) rfl rfl (by omega) (by omega) (off := a) (by omega) ⟨rfl, rfl, rfl⟩) ?_
          refine w_e0 rfl (ok_store (ty rfl) rfl (v := .slice _ _ _) rfl rfl hs (by omega) ⟨trivial, ?_⟩)
          refine w_nil ?_
          exact n_then ⟨⟨rfl, rfl, rfl, rfl, trivial⟩, rfl, _, hM.row_s (by omega) hG hcz hnc hln htk hs0⟩
        · skip
          refine w_e rfl (ok_buildSlice (sl rfl) (ty rfl) rfl (vs := #[.int .i64 (b : Int)]) (by kernel_rfl) (by decide) (by decide) (fun hN66 => ⟨.inr ⟨_, rfl, rfl⟩, ?_⟩))
          have hM := hM.ext (Ext.push hN66 (.cells #[.int .i64 (b : Int)] 3 (0, 0)))
          have hr := hM.blk.r
          have he := hM.e
          have hs := Ext.push hN66 (.cells #[.int .i64 (b : Int)] 3 (0, 0)) _ _ hs
          have own := hM.blk.g.own a (by omega)
          have hnw := hset_same h4 N4 (.cells #[.int .i64 (b : Int)] 3 (0, 0))
          refine w_cons ?_ (w_cons ?_ (w_none))
          · skip
            refine w_e rfl (ok_load (ty rfl) rfl hr g54 ⟨⟨rfl, rfl⟩, ?_⟩)
            refine w_e rfl (ok_append rfl (sl rfl) (ty rfl) rfl rfl own rfl hnw (Nat.le_of_ble_eq_true rfl) (by simp [isOne]) (by decide) (by decide) (by omega) (by omega) (fun b' n' c' cs' N' hcase hcz hnc hln htk _ => ⟨trivial, ?_⟩)); have hG : Grown _ _ b' N' (V1 a) := hcase; have hr := (hset_ne _ (.cells cs' 3 (0, 0)) (hG.ne hr (apart_old hM.blk.g (.inl hM.blk.lr) a (by omega)))).trans hr; have he := (hset_ne _ (.cells cs' 3 (0, 0)) (hG.ne he (hM.eN a (by omega)))).trans he; have hs0 := hs; have hs := (hset_ne _ (.cells cs' 3 (0, 0)) (hG.ne hs (apart_old hM.blk.g (.inl hM.blk.ls) a (by omega)))).trans hs
            refine w_p rfl (fun _ _ => ok_indexAddr (sl rfl) (ty rfl) rfl rfl (by omega) (by omega) (off := a) (by omega) ⟨rfl, rfl, rfl⟩) ?_
            refine w_e0 rfl (ok_store (ty rfl) rfl (v := .slice _ _ _) rfl rfl hs (by omega) ⟨trivial, ?_⟩)
            refine w_nil ?_
            exact n_then ⟨⟨rfl, rfl, rfl, rfl, trivial⟩, rfl, _, hM.row_s (by omega) hG hcz hnc hln htk hs0⟩
          · skip
            refine w_e rfl (ok_append rfl (sl rfl) (ty rfl) rfl rfl own rfl hnw (Nat.le_of_ble_eq_true rfl) (by simp [isOne]) (by decide) (by decide) (by omega) (by omega) (fun b' n' c' cs' N' hcase hcz hnc hln htk _ => ⟨trivial, ?_⟩)); have hG : Grown _ _ b' N' (V1 a) := hcase; have hr := (hset_ne _ (.cells cs' 3 (0, 0)) (hG.ne hr (apart_old hM.blk.g (.inl hM.blk.lr) a (by omega)))).trans hr; have he := (hset_ne _ (.cells cs' 3 (0, 0)) (hG.ne he (hM.eN a (by omega)))).trans he; have hs0 := hs; have hs := (hset_ne _ (.cells cs' 3 (0, 0)) (hG.ne hs (apart_old hM.blk.g (.inl hM.blk.ls) a (by omega)))).trans hs
            refine w_r rfl (fun _ _ hExt => ok_load (ty rfl) rfl (hExt _ _ hr) g54 ⟨rfl, rfl, rfl⟩) ?_
            refine w_p rfl (fun _ _ => ok_indexAddr (sl rfl) (ty rfl) rfl rfl (by omega) (by omega) (off := a) (by omega) ⟨rfl, rfl, rfl⟩) ?_
            refine w_e0 rfl (ok_store (ty rfl) rfl (v := .slice _ _ _) rfl rfl hs (by omega) ⟨trivial, ?_⟩)
            refine w_nil ?_
            exact n_then ⟨⟨rfl, rfl, rfl, rfl, trivial⟩, rfl, _, hM.row_s (by omega) hG hcz hnc hln htk hs0⟩
      · skip
        refine w_e rfl (ok_buildSlice (sl rfl) (ty rfl) rfl (vs := #[.int .i64 (b : Int)]) (by kernel_rfl) (by decide) (by decide) (fun hN66 => ⟨.inr ⟨_, rfl, rfl⟩, ?_⟩))
        have hM := hM.ext (Ext.push hN66 (.cells #[.int .i64 (b : Int)] 3 (0, 0)))
        have hr := hM.blk.r
        have he := hM.e
        have hs := Ext.push hN66 (.cells #[.int .i64 (b : Int)] 3 (0, 0)) _ _ hs
        have own := hM.blk.g.own a (by omega)
        have hnw := hset_same h4 N4 (.cells #[.int .i64 (b : Int)] 3 (0, 0))
        refine w_cons ?_ (w_cons ?_ (w_cons ?_ (w_none)))
        · skip
          refine w_e rfl (ok_load (ty rfl) rfl hr g54 ⟨⟨rfl, rfl⟩, ?_⟩)
          refine w_cons ?_ (w_cons ?_ (w_none))
          · skip
            refine w_e rfl (ok_load (ty rfl) rfl he (by rfl) ⟨⟨rfl, rfl⟩, ?_⟩)
            refine w_e rfl (ok_append rfl (sl rfl) (ty rfl) rfl rfl own rfl hnw (Nat.le_of_ble_eq_true rfl) (by simp [isOne]) (by decide) (by decide) (by omega) (by omega) (fun b' n' c' cs' N' hcase hcz hnc hln htk _ => ⟨trivial, ?_⟩)); have hG : Grown _ _ b' N' (V1 a) := hcase; have hr := (hset_ne _ (.cells cs' 3 (0, 0)) (hG.ne hr (apart_old hM.blk.g (.inl hM.blk.lr) a (by omega)))).trans hr; have he := (hset_ne _ (.cells cs' 3 (0, 0)) (hG.ne he (hM.eN a (by omega)))).trans he; have hs0 := hs; have hs := (hset_ne _ (.cells cs' 3 (0, 0)) (hG.ne hs (apart_old hM.blk.g (.inl hM.blk.ls) a (by omega)))).trans hs
            refine w_p rfl (fun _ _ => ok_indexAddr (sl rfl) (ty rfl) rfl rfl (by omega) (by omega) (off := a) (by omega) ⟨rfl, rfl, rfl⟩) ?_
            refine w_e0 rfl (ok_store (ty rfl) rfl (v := .slice _ _ _) rfl rfl hs (by omega) ⟨trivial, ?_⟩)
            refine w_nil ?_
            exact n_then ⟨⟨rfl, rfl, rfl, rfl, trivial⟩, rfl, _, hM.row_s (by omega) hG hcz hnc hln htk hs0⟩
          · skip
            refine w_e rfl (ok_append rfl (sl rfl) (ty rfl) rfl rfl own rfl hnw (Nat.le_of_ble_eq_true rfl) (by simp [isOne]) (by decide) (by decide) (by omega) (by omega) (fun b' n' c' cs' N' hcase hcz hnc hln htk _ => ⟨trivial, ?_⟩)); have hG : Grown _ _ b' N' (V1 a) := hcase; have hr := (hset_ne _ (.cells cs' 3 (0, 0)) (hG.ne hr (apart_old hM.blk.g (.inl hM.blk.lr) a (by omega)))).trans hr; have he := (hset_ne _ (.cells cs' 3 (0, 0)) (hG.ne he (hM.eN a (by omega)))).trans he; have hs0 := hs; have hs := (hset_ne _ (.cells cs' 3 (0, 0)) (hG.ne hs (apart_old hM.blk.g (.inl hM.blk.ls) a (by omega)))).trans hs
            refine w_r rfl (fun _ _ hExt => ok_load (ty rfl) rfl (hExt _ _ he) (by rfl) ⟨rfl, rfl, rfl⟩) ?_
            refine w_p rfl (fun _ _ => ok_indexAddr (sl rfl) (ty rfl) rfl rfl (by omega) (by omega) (off := a) (by omega) ⟨rfl, rfl, rfl⟩) ?_
            refine w_e0 rfl (ok_store (ty rfl) rfl (v := .slice _ _ _) rfl rfl hs (by omega) ⟨trivial, ?_⟩)
            refine w_nil ?_
            exact n_then ⟨⟨rfl, rfl, rfl, rfl, trivial⟩, rfl, _, hM.row_s (by omega) hG hcz hnc hln htk hs0⟩
        · skip
          refine w_e rfl (ok_load (ty rfl) rfl he (by rfl) ⟨⟨rfl, rfl⟩, ?_⟩)
          refine w_cons ?_ (w_cons ?_ (w_none))
          · skip
            refine w_e rfl (ok_load (ty rfl) rfl hr g54 ⟨⟨rfl, rfl⟩, ?_⟩)
            refine w_e rfl (ok_append rfl (sl rfl) (ty rfl) rfl rfl own rfl hnw (Nat.le_of_ble_eq_true rfl) (by simp [isOne]) (by decide) (by decide) (by omega) (by omega) (fun b' n' c' cs' N' hcase hcz hnc hln htk _ => ⟨trivial, ?_⟩)); have hG : Grown _ _ b' N' (V1 a) := hcase; have hr := (hset_ne _ (.cells cs' 3 (0, 0)) (hG.ne hr (apart_old hM.blk.g (.inl hM.blk.lr) a (by omega)))).trans hr; have he := (hset_ne _ (.cells cs' 3 (0, 0)) (hG.ne he (hM.eN a (by omega)))).trans he; have hs0 := hs; have hs := (hset_ne _ (.cells cs' 3 (0, 0)) (hG.ne hs (apart_old hM.blk.g (.inl hM.blk.ls) a (by omega)))).trans hs
            refine w_p rfl (fun _ _ => ok_indexAddr (sl rfl) (ty rfl) rfl rfl (by omega) (by omega) (off := a) (by omega) ⟨rfl, rfl, rfl⟩) ?_
            refine w_e0 rfl (ok_store (ty rfl) rfl (v := .slice _ _ _) rfl rfl hs (by omega) ⟨trivial, ?_⟩)
            refine w_nil ?_
            exact n_then ⟨⟨rfl, rfl, rfl, rfl, trivial⟩, rfl, _, hM.row_s (by omega) hG hcz hnc hln htk hs0⟩
          · skip
            refine w_e rfl (ok_append rfl (sl rfl) (ty rfl) rfl rfl own rfl hnw (Nat.le_of_ble_eq_true rfl) (by simp [isOne]) (by decide) (by decide) (by omega) (by omega) (fun b' n' c' cs' N' hcase hcz hnc hln htk _ => ⟨trivial, ?_⟩)); have hG : Grown _ _ b' N' (V1 a) := hcase; have hr := (hset_ne _ (.cells cs' 3 (0, 0)) (hG.ne hr (apart_old hM.blk.g (.inl hM.blk.lr) a (by omega)))).trans hr; have he := (hset_ne _ (.cells cs' 3 (0, 0)) (hG.ne he (hM.eN a (by omega)))).trans he; have hs0 := hs; have hs := (hset_ne _ (.cells cs' 3 (0, 0)) (hG.ne hs (apart_old hM.blk.g (.inl hM.blk.ls) a (by omega)))).trans hs
            refine w_r rfl (fun _ _ hExt => ok_load (ty rfl) rfl (hExt _ _ hr) g54 ⟨rfl, rfl, rfl⟩) ?_
            refine w_p rfl (fun _ _ => ok_indexAddr (sl rfl) (ty rfl) rfl rfl (by omega) (by omega) (off := a) (by omega) ⟨rfl, rfl, rfl⟩) ?_
            refine w_e0 rfl (ok_store (ty rfl) rfl (v := .slice _ _ _) rfl rfl hs (by omega) ⟨trivial, ?_⟩)
            refine w_nil ?_
            exact n_then ⟨⟨rfl, rfl, rfl, rfl, trivial⟩, rfl, _, hM.row_s (by omega) hG hcz hnc hln htk hs0⟩
        · skip
          refine w_e rfl (ok_append rfl (sl rfl) (ty rfl) rfl rfl own rfl hnw (Nat.le_of_ble_eq_true rfl) (by simp [isOne]) (by decide) (by decide) (by omega) (by omega) (fun b' n' c' cs' N' hcase hcz hnc hln htk _ => ⟨trivial, ?_⟩)); have hG : Grown _ _ b' N' (V1 a) := hcase; have hr := (hset_ne _ (.cells cs' 3 (0, 0)) (hG.ne hr (apart_old hM.blk.g (.inl hM.blk.lr) a (by omega)))).trans hr; have he := (hset_ne _ (.cells cs' 3 (0, 0)) (hG.ne he (hM.eN a (by omega)))).trans he; have hs0 := hs; have hs := (hset_ne _ (.cells cs' 3 (0, 0)) (hG.ne hs (apart_old hM.blk.g (.inl hM.blk.ls) a (by omega)))).trans hs
          refine w_r rfl (fun _ _ hExt => ok_load (ty rfl) rfl (hExt _ _ hr) g54 ⟨rfl, rfl, rfl⟩) ?_
          refine w_r rfl (fun _ _ hExt => ok_load (ty rfl) rfl (hExt _ _ he) (by rfl) ⟨rfl, rfl, rfl⟩) ?_
          refine w_p rfl (fun _ _ => ok_indexAddr (sl rfl) (ty rfl) rfl rfl (by omega) (by omega) (off := a) (by omega) ⟨rfl, rfl, rfl⟩) ?_
          refine w_e0 rfl (ok_store (ty rfl) rfl (v := .slice _ _ _) rfl rfl hs (by omega) ⟨trivial, ?_⟩)
          refine w_nil ?_
          exact n_then ⟨⟨rfl, rfl, rfl, rfl, trivial⟩, rfl, _, hM.row_s (by omega) hG hcz hnc hln htk hs0⟩
    rintro E h5 N5 D ⟨hE, rfl, V2, hM⟩
    obtain ⟨E1, rfl⟩ := hE.ex
    refine n_then ?_
    refine c_cut (fun E h' _ D => Fr E [(0, .pointer (some ⟨br, 0, none⟩)), (2, .pointer (some ⟨N, 0, none⟩)), (3, .bool false)] ∧ D = [] ∧ ∃ V', Mid h h' N0 br bs bp n N1 N rc (p0 + c) (fa (p0 + c)) (fb (p0 + c)) V' (Sst n p0 fa fb (c + 1))) ?_ ?_
    · skip
      have hl : ((ap (Sst n p0 fa fb c) (fa (p0 + c)) (fb (p0 + c))) (n + fb (p0 + c))).length ≤ 200000 := by
        have := hl (n + fb (p0 + c)); simp only [ap]; rw [if_neg (by omega)]; omega
      simp only [Sst]
      generalize ap (Sst n p0 fa fb c) (fa (p0 + c)) (fb (p0 + c)) = S at *
      generalize fa (p0 + c) = a at *
      generalize fb (p0 + c) = b at *
      obtain ⟨vs, hs, hss, hsv⟩ := hM.blk.q
      have hva := hsv b (by omega)
      have hr := hM.blk.r
      have he := hM.e
      have own := hM.blk.g.own (n + b) (by omega)
      have g55 := gg (p0 + c) _ _ (by decide) f55
      have hla : (ints (S (n + b))).length ≤ 200000 := by simp only [ints, List.length_map]; omega
      refine c_draw mixed [0, 0, 0, 0, 0, 0, 0, 0, 0, 0, 0, 0, 0, 0, 0, 0, 1, 2, 0, 2] 20 rfl [((0, 2), [((1, 2), [((2, 2), [((4, 2), [((6, 2), [((7, 2), [((8, 2), [((9, 1), [((10, 2), [((11, 1), [((12, 2), [((13, 1), [((14, 2), [((15, 1), [((3, 0), [((5, 0), [((16, 0), [((17, 0), [((18, 2), [((19, 0), ())])])])]), ((16, 0), [((5, 0), [((17, 0), [((18, 2), [((19, 0), ())])])]), ((17, 0), [((5, 1), [((18, 2), [((19, 0), ())])])])])]), ((5, 0), [((3, 0), [((16, 0), [((17, 0), [((18, 2), [((19, 0), ())])])])]), ((16, 0), [((3, 0), [((17, 0), [((18, 2), [((19, 0), ())])])]), ((17, 0), [((3, 1), [((18, 2), [((19, 0), ())])])])])]), ((16, 0), [((3, 0), [((5, 0), [((17, 0), [((18, 2), [((19, 0), ())])])]), ((17, 0), [((5, 1), [((18, 2), [((19, 0), ())])])])]), ((5, 0), [((3, 0), [((17, 0), [((18, 2), [((19, 0), ())])])]), ((17, 0), [((3, 1), [((18, 2), [((19, 0), ())])])])]), ((17, 0), [((3, 1), [((5, 1), [((18, 2), [((19, 0), ())])])])])])])])])])])])])])])])])])])])] (by kernel_rfl) (by kernel_rfl) ?_
      refine w_p rfl (fun _ _ => ok_move (v := .pointer _) rfl ⟨rfl, rfl, rfl⟩) ?_
      refine w_p rfl (fun _ _ => ok_nilCheck_ptr rfl ⟨rfl, rfl, rfl⟩) ?_
      refine w_p rfl (fun _ _ => ok_fieldAddr (fld rfl) rfl ⟨rfl, rfl, rfl⟩) ?_
      refine w_p rfl (fun _ _ => ok_fieldAddr (fld rfl) rfl ⟨rfl, rfl, rfl⟩) ?_
      refine w_p rfl (fun _ _ => ok_move (v := .pointer _) rfl ⟨rfl, rfl, rfl⟩) ?_
      refine w_p rfl (fun _ _ => ok_nilCheck_ptr rfl ⟨rfl, rfl, rfl⟩) ?_
      refine w_p rfl (fun _ _ => ok_fieldAddr (fld rfl) rfl ⟨rfl, rfl, rfl⟩) ?_
      refine w_r rfl (fun _ _ hExt => ok_load (ty rfl) rfl (hExt _ _ hr) g55 ⟨rfl, rfl, rfl⟩) ?_
      refine w_p rfl (fun _ _ => ok_fieldAddr (fld rfl) rfl ⟨rfl, rfl, rfl⟩) ?_
      refine w_r rfl (fun _ _ hExt => ok_load (ty rfl) rfl (hExt _ _ he) (by rfl) ⟨rfl, rfl, rfl⟩) ?_
      refine w_p rfl (fun _ _ => ok_indexAddr (sl rfl) (ty rfl) rfl rfl (by omega) (by omega) (off := (0 + b)) (by omega) ⟨rfl, rfl, rfl⟩) ?_
      refine w_r rfl (fun _ _ hExt => ok_load (ty rfl) rfl (hExt _ _ hs) (by rw [Nat.zero_add]; exact hva) ⟨rfl, rfl, rfl⟩) ?_
      refine w_p rfl (fun _ _ => ok_fieldAddr (fld rfl) rfl ⟨rfl, rfl, rfl⟩) ?_
      refine w_r rfl (fun _ _ hExt => ok_load (ty rfl) rfl (hExt _ _ he) (by rfl) ⟨rfl, rfl, rfl⟩) ?_
      refine w_cons ?_ (w_cons ?_ (w_cons ?_ (w_none)))
      · skip
        refine w_e rfl (ok_load (ty rfl) rfl hr g55 ⟨⟨rfl, rfl⟩, ?_⟩)
        refine w_cons ?_ (w_cons ?_ (w_none))
        · skip
          refine w_e rfl (ok_load (ty rfl) rfl he (by rfl) ⟨⟨rfl, rfl⟩, ?_⟩)
          refine w_e rfl (ok_buildSlice (sl rfl) (ty rfl) rfl (vs := #[.int .i64 (a : Int)]) (by kernel_rfl) (by decide) (by decide) (fun hN85 => ⟨.inr ⟨_, rfl, rfl⟩, ?_⟩))
          have hM := hM.ext (Ext.push hN85 (.cells #[.int .i64 (a : Int)] 3 (0, 0)))
          have hr := hM.blk.r
          have he := hM.e
          have hs := Ext.push hN85 (.cells #[.int .i64 (a : Int)] 3 (0, 0)) _ _ hs
          have own := hM.blk.g.own (n + b) (by omega)
          have hnw := hset_same h5 N5 (.cells #[.int .i64 (a : Int)] 3 (0, 0))
          refine w_e rfl (ok_append rfl (sl rfl) (ty rfl) rfl rfl own rfl hnw (Nat.le_of_ble_eq_true rfl) (by simp [isOne]) (by decide) (by decide) (by omega) (by omega) (fun b' n' c' cs' N' hcase hcz hnc hln htk _ => ⟨trivial, ?_⟩)); have hG : Grown _ _ b' N' (V2 (n + b)) := hcase; have hr := (hset_ne _ (.cells cs' 3 (0, 0)) (hG.ne hr (apart_old hM.blk.g (.inl hM.blk.lr) (n + b) (by omega)))).trans hr; have he := (hset_ne _ (.cells cs' 3 (0, 0)) (hG.ne he (hM.eN (n + b) (by omega)))).trans he; have hs0 := hs; have hs := (hset_ne _ (.cells cs' 3 (0, 0)) (hG.ne hs (apart_old hM.blk.g (.inl hM.blk.lp) (n + b) (by omega)))).trans hs
          refine w_p rfl (fun _ _ => ok_indexAddr (sl rfl) (ty rfl) rfl rfl (by omega) (by omega) (off := b) (by omega) ⟨rfl, rfl, rfl⟩) ?_
          refine w_e0 rfl (ok_store (ty rfl) rfl (v := .slice _ _ _) rfl rfl hs (by omega) ⟨trivial, ?_⟩)
          refine w_nil ?_
          exact n_then ⟨⟨rfl, rfl, rfl, trivial⟩, rfl, _, hM.row_p (by omega) hG hcz hnc hln htk hs0⟩
        · skip
          refine w_e rfl (ok_buildSlice (sl rfl) (ty rfl) rfl (vs := #[.int .i64 (a : Int)]) (by kernel_rfl) (by decide) (by decide) (fun hN85 => ⟨.inr ⟨_, rfl, rfl⟩, ?_⟩))
          have hM := hM.ext (Ext.push hN85 (.cells #[.int .i64 (a : Int)] 3 (0, 0)))
          have hr := hM.blk.r
          have he := hM.e
          have hs := Ext.push hN85 (.cells #[.int .i64 (a : Int)] 3 (0, 0)) _ _ hs
          have own := hM.blk.g.own (n + b) (by omega)
          have hnw := hset_same h5 N5 (.cells #[.int .i64 (a : Int)] 3 (0, 0))
          refine w_cons ?_ (w_cons ?_ (w_none))
          · skip
            refine w_e rfl (ok_load (ty rfl) rfl he (by rfl) ⟨⟨rfl, rfl⟩, ?_⟩)
            refine w_e rfl (ok_append rfl (sl rfl) (ty rfl) rfl rfl own rfl hnw (Nat.le_of_ble_eq_true rfl) (by simp [isOne]) (by decide) (by decide) (by omega) (by omega) (fun b' n' c' cs' N' hcase hcz hnc hln htk _ => ⟨trivial, ?_⟩)); have hG : Grown _ _ b' N' (V2 (n + b)) := hcase; have hr := (hset_ne _ (.cells cs' 3 (0, 0)) (hG.ne hr (apart_old hM.blk.g (.inl hM.blk.lr) (n + b) (by omega)))).trans hr; have he := (hset_ne _ (.cells cs' 3 (0, 0)) (hG.ne he (hM.eN (n + b) (by omega)))).trans he; have hs0 := hs; have hs := (hset_ne _ (.cells cs' 3 (0, 0)) (hG.ne hs (apart_old hM.blk.g (.inl hM.blk.lp) (n + b) (by omega)))).trans hs
            refine w_p rfl (fun _ _ => ok_indexAddr (sl rfl) (ty rfl) rfl rfl (by omega) (by omega) (off := b) (by omega) ⟨rfl, rfl, rfl⟩) ?_
            refine w_e0 rfl (ok_store (ty rfl) rfl (v := .slice _ _ _) rfl rfl hs (by omega) ⟨trivial, ?_⟩)
            refine w_nil ?_
            exact n_then ⟨⟨rfl, rfl, rfl, trivial⟩, rfl, _, hM.row_p (by omega) hG hcz hnc hln htk hs0⟩
          · skip
            refine w_e rfl (ok_append rfl (sl rfl) (ty rfl) rfl rfl own rfl hnw (Nat.le_of_ble_eq_true rfl) (by simp [isOne]) (by decide) (by decide) (by omega) (by omega) (fun b' n' c' cs' N' hcase hcz hnc hln htk _ => ⟨trivial, ?_⟩)); have hG : Grown _ _ b' N' (V2 (n + b)) := hcase; have hr := (hset_ne _ (.cells cs' 3 (0, 0)) (hG.ne hr (apart_old hM.blk.g (.inl hM.blk.lr) (n + b) (by omega)))).trans hr; have he := (hset_ne _ (.cells cs' 3 (0, 0)) (hG.ne he (hM.eN (n + b) (by omega)))).trans he; have hs0 := hs; have hs := (hset_ne _ (.cells cs' 3 (0, 0)) (hG.ne hs (apart_old hM.blk.g (.inl hM.blk.lp) (n + b) (by omega)))).trans hs
            refine w_r rfl (fun _ _ hExt => ok_load (ty rfl) rfl (hExt _ _ he) (by rfl) ⟨rfl, rfl, rfl⟩) ?_
            refine w_p rfl (fun _ _ => ok_indexAddr (sl rfl) (ty rfl) rfl rfl (by omega) (by omega) (off := b) (by omega) ⟨rfl, rfl, rfl⟩) ?_
            refine w_e0 rfl (ok_store (ty rfl) rfl (v := .slice _ _ _) rfl rfl hs (by omega) ⟨trivial, ?_⟩)
            refine w_nil ?_
            exact n_then ⟨⟨rfl, rfl, rfl, trivial⟩, rfl, _, hM.row_p (by omega) hG hcz hnc hln htk hs0⟩
      · skip
        refine w_e rfl (ok_load (ty rfl) rfl he (by rfl) ⟨⟨rfl, rfl⟩, ?_⟩)
        refine w_cons ?_ (w_cons ?_ (w_none))
        · skip
          refine w_e rfl (ok_load (ty rfl) rfl hr g55 ⟨⟨rfl, rfl⟩, ?_⟩)
          refine w_e rfl (ok_buildSlice (sl rfl) (ty rfl) rfl (vs := #[.int .i64 (a : Int)]) (by kernel_rfl) (by decide) (by decide) (fun hN85 => ⟨.inr ⟨_, rfl, rfl⟩, ?_⟩))
          have hM := hM.ext (Ext.push hN85 (.cells #[.int .i64 (a : Int)] 3 (0, 0)))
          have hr := hM.blk.r
          have he := hM.e
          have hs := Ext.push hN85 (.cells #[.int .i64 (a : Int)] 3 (0, 0)) _ _ hs
          have own := hM.blk.g.own (n + b) (by omega)
          have hnw := hset_same h5 N5 (.cells #[.int .i64 (a : Int)] 3 (0, 0))
          refine w_e rfl (ok_append rfl (sl rfl) (ty rfl) rfl rfl own rfl hnw (Nat.le_of_ble_eq_true rfl) (by simp [isOne]) (by decide) (by decide) (by omega) (by omega) (fun b' n' c' cs' N' hcase hcz hnc hln htk _ => ⟨trivial, ?_⟩)); have hG : Grown _ _ b' N' (V2 (n + b)) := hcase; have hr := (hset_ne _ (.cells cs' 3 (0, 0)) (hG.ne hr (apart_old hM.blk.g (.inl hM.blk.lr) (n + b) (by omega)))).trans hr; have he := (hset_ne _ (.cells cs' 3 (0, 0)) (hG.ne he (hM.eN (n + b) (by omega)))).trans he; have hs0 := hs; have hs := (hset_ne _ (.cells cs' 3 (0, 0)) (hG.ne hs (apart_old hM.blk.g (.inl hM.blk.lp) (n + b) (by omega)))).trans hs
          refine w_p rfl (fun _ _ => ok_indexAddr (sl rfl) (ty rfl) rfl rfl (by omega) (by omega) (off := b) (by omega) ⟨rfl, rfl, rfl⟩) ?_
          refine w_e0 rfl (ok_store (ty rfl) rfl (v := .slice _ _ _) rfl rfl hs (by omega) ⟨trivial, ?_⟩)
          refine w_nil ?_
          exact n_then ⟨⟨rfl, rfl, rfl, trivial⟩, rfl, _, hM.row_p (by omega) hG hcz hnc hln htk hs0⟩
        · skip
          refine w_e rfl (ok_buildSlice (sl rfl) (ty rfl) rfl (vs := #[.int .i64 (a : Int)]) (by kernel_rfl) (by decide) (by decide) (fun hN85 => ⟨.inr ⟨_, rfl, rfl⟩, ?_⟩))
          have hM := hM.ext (Ext.push hN85 (.cells #[.int .i64 (a : Int)] 3 (0, 0)))
          have hr := hM.blk.r
          have he := hM.e
          have hs := Ext.push hN85 (.cells #[.int .i64 (a : Int)] 3 (0, 0)) _ _ hs
          have own := hM.blk.g.own (n + b) (by omega)
          have hnw := hset_same h5 N5 (.cells #[.int .i64 (a : Int)] 3 (0, 0))
          refine w_cons ?_ (w_cons ?_ (w_none))
          · skip
            refine w_e rfl (ok_load (ty rfl) rfl hr g55 ⟨⟨rfl, rfl⟩, ?_⟩)
            refine w_e rfl (ok_append rfl (sl rfl) (ty rfl) rfl rfl own rfl hnw (Nat.le_of_ble_eq_true rfl) (by simp [isOne]) (by decide) (by decide) (by omega) (by omega) (fun b' n' c' cs' N' hcase hcz hnc hln htk _ => ⟨trivial, ?_⟩)); have hG : Grown _ _ b' N' (V2 (n + b)) := hcase; have hr := (hset_ne _ (.cells cs' 3 (0, 0)) (hG.ne hr (apart_old hM.blk.g (.inl hM.blk.lr) (n + b) (by omega)))).trans hr; have he := (hset_ne _ (.cells cs' 3 (0, 0)) (hG.ne he (hM.eN (n + b) (by omega)))).trans he; have hs0 := hs; have hs := (hset_ne _ (.cells cs' 3 (0, 0)) (hG.ne hs (apart_old hM.blk.g (.inl hM.blk.lp) (n + b) (by omega)))).trans hs
            refine w_p rfl (fun _ _ => ok_indexAddr (sl rfl) (ty rfl) rfl rfl (by omega) (by omega) (off := b) (by omega) ⟨rfl, rfl, rfl⟩) ?_
            refine w_e0 rfl (ok_store (ty rfl) rfl (v := .slice _ _ _) rfl rfl hs (by omega) ⟨trivial, ?_⟩)
            refine w_nil ?_
            exact n_then ⟨⟨rfl, rfl, rfl, trivial⟩, rfl, _, hM.row_p (by omega) hG hcz hnc hln htk hs0⟩
          · skip
            refine w_e rfl (ok_append rfl (sl rfl) (ty rfl) rfl rfl own rfl hnw (Nat.le_of_ble_eq_true rfl) (by simp [isOne]) (by decide) (by decide) (by omega) (by omega) (fun b' n' c' cs' N' hcase hcz hnc hln htk _ => ⟨trivial, ?_⟩)); have hG : Grown _ _ b' N' (V2 (n + b)) := hcase; have hr := (hset_ne _ (.cells cs' 3 (0, 0)) (hG.ne hr (apart_old hM.blk.g (.inl hM.blk.lr) (n + b) (by omega)))).trans hr; have he := (hset_ne _ (.cells cs' 3 (0, 0)) (hG.ne he (hM.eN (n + b) (by omega)))).trans he; have hs0 := hs; have hs := (hset_ne _ (.cells cs' 3 (0, 0)) (hG.ne hs (apart_old hM.blk.g (.inl hM.blk.lp) (n + b) (by omega)))).trans hs
            refine w_r rfl (fun _ _ hExt => ok_load (ty rfl) rfl (hExt _ _ hr) g55 ⟨rfl, rfl, rfl⟩) ?_
            refine w_p rfl (fun _ _ => ok_indexAddr (sl rfl) (ty rfl) rfl rfl (by omega) (by omega) (off := b) (by omega) ⟨rfl, rfl, rfl⟩) ?_
            refine w_e0 rfl (ok_store (ty rfl) rfl (v := .slice _ _ _) rfl rfl hs (by omega) ⟨trivial, ?_⟩)
            refine w_nil ?_
            exact n_then ⟨⟨rfl, rfl, rfl, trivial⟩, rfl, _, hM.row_p (by omega) hG hcz hnc hln htk hs0⟩
      · skip
        refine w_e rfl (ok_buildSlice (sl rfl) (ty rfl) rfl (vs := #[.int .i64 (a : Int)]) (by kernel_rfl) (by decide) (by decide) (fun hN85 => ⟨.inr ⟨_, rfl, rfl⟩, ?_⟩))
        have hM := hM.ext (Ext.push hN85 (.cells #[.int .i64 (a : Int)] 3 (0, 0)))
        have hr := hM.blk.r
        have he := hM.e
        have hs := Ext.push hN85 (.cells #[.int .i64 (a : Int)] 3 (0, 0)) _ _ hs
        have own := hM.blk.g.own (n + b) (by omega)
        have hnw := hset_same h5 N5 (.cells #[.int .i64 (a : Int)] 3 (0, 0))
        refine w_cons ?_ (w_cons ?_ (w_cons ?_ (w_none)))
        · skip
          refine w_e rfl (ok_load (ty rfl) rfl hr g55 ⟨⟨rfl, rfl⟩, ?_⟩)
          refine w_cons ?_ (w_cons ?_ (w_none))
          · skip
            refine w_e rfl (ok_load (ty rfl) rfl he (by rfl) ⟨⟨rfl, rfl⟩, ?_⟩)
            refine w_e rfl (ok_append rfl (sl rfl) (ty rfl) rfl rfl own rfl hnw (Nat.le_of_ble_eq_true rfl) (by simp [isOne]) (by decide) (by decide) (by omega) (by omega) (fun b' n' c' cs' N' hcase hcz hnc hln htk _ => ⟨trivial, ?_⟩)); have hG : Grown _ _ b' N' (V2 (n + b)) := hcase; have hr := (hset_ne _ (.cells cs' 3 (0, 0)) (hG.ne hr (apart_old hM.blk.g (.inl hM.blk.lr) (n + b) (by omega)))).trans hr; have he := (hset_ne _ (.cells cs' 3 (0, 0)) (hG.ne he (hM.eN (n + b) (by omega)))).trans he; have hs0 := hs; have hs := (hset_ne _ (.cells cs' 3 (0, 0)) (hG.ne hs (apart_old hM.blk.g (.inl hM.blk.lp) (n + b) (by omega)))).trans hs
            refine w_p rfl (fun _ _ => ok_indexAddr (sl rfl) (ty rfl) rfl rfl (by omega) (by omega) (off := b) (by omega) ⟨rfl, rfl, rfl⟩) ?_
            refine w_e0 rfl (ok_store (ty rfl) rfl (v := .slice _ _ _) rfl rfl hs (by omega) ⟨trivial, ?_⟩)
            refine w_nil ?_
            exact n_then ⟨⟨rfl, rfl, rfl, trivial⟩, rfl, _, hM.row_p (by omega) hG hcz hnc hln htk hs0⟩
          · skip
            refine w_e rfl (ok_append rfl (sl rfl) (ty rfl) rfl rfl own rfl hnw (Nat.le_of_ble_eq_true rfl) (by simp [isOne]) (by decide) (by decide) (by omega) (by omega) (fun b' n' c' cs' N' hcase hcz hnc hln htk _ => ⟨trivial, ?_⟩)); have hG : Grown _ _ b' N' (V2 (n + b)) := hcase; have hr := (hset_ne _ (.cells cs' 3 (0, 0)) (hG.ne hr (apart_old hM.blk.g (.inl hM.blk.lr) (n + b) (by omega)))).trans hr; have he := (hset_ne _ (.cells cs' 3 (0, 0)) (hG.ne he (hM.eN (n + b) (by omega)))).trans he; have hs0 := hs; have hs := (hset_ne _ (.cells cs' 3 (0, 0)) (hG.ne hs (apart_old hM.blk.g (.inl hM.blk.lp) (n + b) (by omega)))).trans hs
            refine w_r rfl (fun _ _ hExt => ok_load (ty rfl) rfl (hExt _ _ he) (by rfl) ⟨rfl, rfl, rfl⟩) ?_
            refine w_p rfl (fun _ _ => ok_indexAddr (sl rfl) (ty rfl) rfl rfl (by omega) (by omega) (off := b) (by omega) ⟨rfl, rfl, rfl⟩) ?_
            refine w_e0 rfl (ok_store (ty rfl) rfl (v := .slice _ _ _) rfl rfl hs (by omega) ⟨trivial, ?_⟩)
            refine w_nil ?_
            exact n_then ⟨⟨rfl, rfl, rfl, trivial⟩, rfl, _, hM.row_p (by omega) hG hcz hnc hln htk hs0⟩
        · skip
          refine w_e rfl (ok_load (ty rfl) rfl he (by rfl) ⟨⟨rfl, rfl⟩, ?_⟩)
          refine w_cons ?_ (w_cons ?_ (w_none))
          · skip
            refine w_e rfl (ok_load (ty rfl) rfl hr g55 ⟨⟨rfl, rfl⟩, ?_⟩)
            refine w_e rfl (ok_append rfl (sl rfl) (ty rfl) rfl rfl own rfl hnw (Nat.le_of_ble_eq_true rfl) (by simp [isOne]) (by decide) (by decide) (by omega) (by omega) (fun b' n' c' cs' N' hcase hcz hnc hln htk _ => ⟨trivial, ?_⟩)); have hG : Grown _ _ b' N' (V2 (n + b)) := hcase; have hr := (hset_ne _ (.cells cs' 3 (0, 0)) (hG.ne hr (apart_old hM.blk.g (.inl hM.blk.lr) (n + b) (by omega)))).trans hr; have he := (hset_ne _ (.cells cs' 3 (0, 0)) (hG.ne he (hM.eN (n + b) (by omega)))).trans he; have hs0 := hs; have hs := (hset_ne _ (.cells cs' 3 (0, 0)) (hG.ne hs (apart_old hM.blk.g (.inl hM.blk.lp) (n + b) (by omega)))).trans hs
            refine w_p rfl (fun _ _ => ok_indexAddr (sl rfl) (ty rfl) rfl rfl (by omega) (by omega) (off := b) (by omega) ⟨rfl, rfl, rfl⟩) ?_
            refine w_e0 rfl (ok_store (ty rfl) rfl (v := .slice _ _ _) rfl rfl hs (by omega) ⟨trivial, ?_⟩)
            refine w_nil ?_
            exact n_then ⟨⟨rfl, rfl, rfl, trivial⟩, rfl, _, hM.row_p (by omega) hG hcz hnc hln htk hs0⟩
          · skip
            refine w_e rfl (ok_append rfl (sl rfl) (ty rfl) rfl rfl own rfl hnw (Nat.le_of_ble_eq_true rfl) (by simp [isOne]) (by decide) (by decide) (by omega) (by omega) (fun b' n' c' cs' N' hcase hcz hnc hln htk _ => ⟨trivial, ?_⟩)); have hG : Grown _ _ b' N' (V2 (n + b)) := hcase; have hr := (hset_ne _ (.cells cs' 3 (0, 0)) (hG.ne hr (apart_old hM.blk.g (.inl hM.blk.lr) (n + b) (by omega)))).trans hr; have he := (hset_ne _ (.cells cs' 3 (0, 0)) (hG.ne he (hM.eN (n + b) (by omega)))).trans he; have hs0 := hs; have hs := (hset_ne _ (.cells cs' 3 (0, 0)) (hG.ne hs (apart_old hM.blk.g (.inl hM.blk.lp) (n + b) (by omega)))).trans hs
            refine w_r rfl (fun _ _ hExt => ok_load (ty rfl) rfl (hExt _ _ hr) g55 ⟨rfl, rfl, rfl⟩) ?_
            refine w_p rfl (fun _ _ => ok_indexAddr (sl rfl) (ty rfl) rfl rfl (by omega) (by omega) (off := b) (by omega) ⟨rfl, rfl, rfl⟩) ?_
            refine w_e0 rfl (ok_store (ty rfl) rfl (v := .slice _ _ _) rfl rfl hs (by omega) ⟨trivial, ?_⟩)
            refine w_nil ?_
            exact n_then ⟨⟨rfl, rfl, rfl, trivial⟩, rfl, _, hM.row_p (by omega) hG hcz hnc hln htk hs0⟩
        · skip
          refine w_e rfl (ok_append rfl (sl rfl) (ty rfl) rfl rfl own rfl hnw (Nat.le_of_ble_eq_true rfl) (by simp [isOne]) (by decide) (by decide) (by omega) (by omega) (fun b' n' c' cs' N' hcase hcz hnc hln htk _ => ⟨trivial, ?_⟩)); have hG : Grown _ _ b' N' (V2 (n + b)) := hcase; have hr := (hset_ne _ (.cells cs' 3 (0, 0)) (hG.ne hr (apart_old hM.blk.g (.inl hM.blk.lr) (n + b) (by omega)))).trans hr; have he := (hset_ne _ (.cells cs' 3 (0, 0)) (hG.ne he (hM.eN (n + b) (by omega)))).trans he; have hs0 := hs; have hs := (hset_ne _ (.cells cs' 3 (0, 0)) (hG.ne hs (apart_old hM.blk.g (.inl hM.blk.lp) (n + b) (by omega)))).trans hs
          refine w_r rfl (fun _ _ hExt => ok_load (ty rfl) rfl (hExt _ _ hr) g55 ⟨rfl, rfl, rfl⟩) ?_
          refine w_r rfl (fun _ _ hExt => ok_load (ty rfl) rfl (hExt _ _ he) (by rfl) ⟨rfl, rfl, rfl⟩) ?_
          refine w_p rfl (fun _ _ => ok_indexAddr (sl rfl) (ty rfl) rfl rfl (by omega) (by omega) (off := b) (by omega) ⟨rfl, rfl, rfl⟩) ?_
          refine w_e0 rfl (ok_store (ty rfl) rfl (v := .slice _ _ _) rfl rfl hs (by omega) ⟨trivial, ?_⟩)
          refine w_nil ?_
          exact n_then ⟨⟨rfl, rfl, rfl, trivial⟩, rfl, _, hM.row_p (by omega) hG hcz hnc hln htk hs0⟩
    rintro E h6 N6 D ⟨hE, rfl, V3, hM⟩
    obtain ⟨E2, rfl⟩ := hE.ex
    refine n_block (n_then ?_)
    have hr := hM.blk.r
    refine c_region (by kernel_rfl) ?_
    refine st_q (ok_move (v := .pointer _) rfl ⟨rfl, rfl, rfl⟩) ?_
    refine st_q (ok_nilCheck_ptr rfl ⟨rfl, rfl, rfl⟩) ?_
    refine st_q (ok_fieldAddr (fld rfl) rfl ⟨rfl, rfl, rfl⟩) ?_
    refine st_q (ok_load (ty rfl) rfl hr (gp _) ⟨rfl, rfl, rfl⟩) ?_
    refine st_q (ok_add rfl rfl (by omega) (by omega) ⟨rfl, rfl, rfl⟩) ?_
    refine st_q (ok_nilCheck_ptr rfl ⟨rfl, rfl, rfl⟩) ?_
    refine st_q (ok_fieldAddr (fld rfl) rfl ⟨rfl, rfl, rfl⟩) ?_
    refine st0 (ok_store (ty rfl) rfl (v := .int _ _) rfl rfl hr (by rw [setA_size]; omega) ?_)
    refine o_nil ?_
    refine n_then ?_
    have hz : setA (setA rc 56 (.int .i64 ((p0 + c : Nat) : Int))) (0 + 56) (.int .i64 (((p0 + c : Nat) : Int) + 1)) = setA rc 56 (.int .i64 ((p0 + (c + 1) : Nat) : Int)) := by
      simp only [setA, Nat.zero_add, List.set_set]
      rw [show (((p0 + c : Nat) : Int) + 1) = ((p0 + (c + 1) : Nat) : Int) from by omega]
    refine ⟨m - (p0 + (c + 1)), by omega, rfl, ⟨rfl, rfl, rfl, trivial⟩, c + 1, V3, rfl, by omega, ?_, ?_, ?_, hM.cN⟩
    · exact hM.keep.set (.inr (.inl rfl)) _
    · have := hM.blk.place (p0 + (c + 1)); rw [← hz] at this; exact this
    · have h1 := hM.blk.lr; have h2 := hM.co; exact (hset_ne _ _ (by omega)).trans hM.c
  · skip
    refine c_exit ?_
    refine x_then (x_then (x_block (n_then ?_)))
    have hcm : m = p0 + c := by omega
    refine c_seq ?_
    refine c_block ?_
    refine c_loop1 ?_
    refine c_seq ?_
    refine c_seq ?_
    refine c_region (by kernel_rfl) ?_
    refine st_q (ok_move (v := .pointer _) rfl ⟨rfl, rfl, rfl⟩) ?_
    refine st_q (ok_nilCheck_ptr rfl ⟨rfl, rfl, rfl⟩) ?_
    refine st_q (ok_fieldAddr (fld rfl) rfl ⟨rfl, rfl, rfl⟩) ?_
    refine st_q (ok_load (ty rfl) rfl hr1 (gg _ _ _ (by decide) f57) ⟨rfl, rfl, rfl⟩) ?_
    refine st_q (ok_len (sl rfl) rfl ⟨rfl, rfl, rfl⟩) ?_
    refine st_q (ok_gtr_f rfl rfl ((by decide)) ⟨rfl, rfl, rfl⟩) ?_
    refine o_nil ?_
    refine n_then ?_
    refine c_cond_false rfl ?_
    refine c_exit ?_
    refine x_then (x_then (x_block (n_then ?_)))
    refine c_seq ?_
    refine c_region (by kernel_rfl) ?_
    refine st_q (ok_build rfl (v := .agg #[.int .i64 0, .int .i64 0, .int .i64 0, .int .i64 0]) (fun _ => by kernel_rfl) ⟨rfl, rfl, rfl⟩) ?_
    refine st0 (ok_storeL (ty rfl) rfl (v := .agg _) rfl rfl rfl rfl hz1 (Nat.le_of_ble_eq_true rfl) ?_)
    refine st_q (ok_assign (v := .bool _) rfl ⟨rfl, rfl, rfl⟩) ?_
    refine o_nil ?_
    refine n_then ?_
    refine c_ret ?_
    refine r_leave (leave_cell_tmp rfl (ty rfl) rfl rfl (hset_same _ _ _) (Nat.le_of_ble_eq_true rfl) rfl ⟨rfl, hk1.set (.inl hlow) _, V1, ?_⟩)
    subst hcm
    rw [Nat.add_sub_cancel_left]
    have e0 : hset h1 N (.cells (lay zero76 0 [.int .i64 0, .int .i64 0, .int .i64 0, .int .i64 0]) 76 (0, 0)) = h1 := by
      funext x
      simp only [hset]
      split
      · rename_i e; rw [e, hz1]; rfl
      · rfl
    refine Eq.mpr (congrArg (fun x => Blk x N0 br bs bp n rc (p0 + c) V1 (Sst n p0 fa fb c)) e0) hB1
end
end Sx
end Go.Proofs.YbulkcsqkGreatDoor
