import Derived.Test.YbulkcsqkGreatSxTopo
import Derived.Test.YbulkcsqkGreatSxHeap2
import Derived.Test.YbulkcsqkGreatSxTx
namespace Go.Proofs.YbulkcsqkGreat
namespace Sx
set_option maxRecDepth 10000
set_option maxHeartbeats 1000000
variable {w0 : World}

def tcells (an : Option Addr) (n nc bs bi bl bp : Nat) (v : Value) : Array Value := #[.slice an n nc, .slice (some ⟨bs, 0, none⟩) n n, .slice none 0 0, .slice none 0 0, .slice none 0 0, .slice (some ⟨bi, 0, none⟩) n n, .slice (some ⟨bl, 0, none⟩) 0 0, .slice (some ⟨bp, 0, none⟩) n n, v]

/-- A sort's memory. -/
structure TS (m : Hp) (an : Option Addr) (n nc bs bt bi bl bp : Nat) (v : Value) (rd : List Nat) (dg : Nat → Nat) : Prop where
  hp : HP m bt 8 (tcells an n nc bs bi bl bp v) 99 v rd
  ind : ∃ ds, m bi = some (.cells ds 3 (0, 0)) ∧ ds.size = n ∧ ∀ j, j < n → ds[j]? = some (.int .i64 (dg j : Int))
  pl : ∃ ps, m bp = some (.cells ps 4 (0, 0)) ∧ ps.size = n
  ni : blk v ≠ some bi

section
variable {h m X : Hp} {N n nc bs bt bi bl bp j : Nat} {an : Option Addr} {v : Value} {rd : List Nat} {dg : Nat → Nat}

theorem TS.push {m' : Hp} {v' : Value} {rd' : List Nat} (ht : TS m an n nc bs bt bi bl bp v rd dg) (hp : HP m' bt 8 (tcells an n nc bs bi bl bp v') 99 v' rd') (hk : Kp m bt v m' v') : TS m' an n nc bs bt bi bl bp v' rd' dg := by
  obtain ⟨ds, d1, d2⟩ := ht.ind
  obtain ⟨ps, p1, p2⟩ := ht.pl
  refine ⟨hp, ⟨ds, hk.keep _ _ d1 (ne_of_ty d1 ht.hp.r rfl) ht.ni, d2⟩, ⟨ps, hk.keep _ _ p1 (ne_of_ty p1 ht.hp.r rfl) ?_, p2⟩, hk.away _ _ d1 ht.ni⟩
  intro e
  obtain ⟨c, hc⟩ := ht.hp.own.at e
  exact ne_of_ty hc p1 rfl rfl
theorem TS.npl {ps : Array Value} (ht : TS m an n nc bs bt bi bl bp v rd dg) (hp : m bp = some (.cells ps 4 (0, 0))) : blk v ≠ some bp := by
  intro e
  obtain ⟨c, hc⟩ := ht.hp.own.at e
  exact ne_of_ty hc hp rfl rfl
theorem TS.setInd {ds : Array Value} {dg' : Nat → Nat} (ht : TS m an n nc bs bt bi bl bp v rd dg) (hds : ∃ ds, m bi = some (.cells ds 3 (0, 0))) (hn : ds.size = n) (hv : ∀ j, j < n → ds[j]? = some (.int .i64 (dg' j : Int))) : TS (hset m bi (.cells ds 3 (0, 0))) an n nc bs bt bi bl bp v rd dg' := by
  obtain ⟨ds0, d1⟩ := hds
  obtain ⟨ps, p1, p2⟩ := ht.pl
  exact ⟨⟨(hset_ne _ _ (ne_of_ty d1 ht.hp.r rfl).symm).trans ht.hp.r, ht.hp.f, ht.hp.own.off ht.ni _, ht.hp.te⟩, ⟨ds, hset_same _ _ _, hn, hv⟩, ⟨ps, (hset_ne _ _ (ne_of_ty d1 p1 rfl).symm).trans p1, p2⟩, ht.ni⟩

theorem countDown_ok (hS : Sep m X h) (ht : TS m an n nc bs bt bi bl bp v rd dg) (hj : j < n) (hd : 1 ≤ dg j) (hdl : dg j ≤ 1000) (hl : rd.length ≤ 900) :
    CallsX Ybaz.prog w0 41 #[.pointer (some ⟨bt, 0, none⟩), .int .i64 (j : Int)] h N (fun u h' _ => u = .tuple #[] ∧ ∃ m' v' rd', Sep m' X h' ∧ TS m' an n nc bs bt bi bl bp v' rd' (dec dg j) ∧ rd'.Perm (if dg j = 1 then j :: rd else rd)) := by
  refine calls_of Ybaz.func41 rfl Ybaz.ntmps41 (Nat.le_of_ble_eq_true rfl) ?_
  obtain ⟨ds, d1, d2, d3⟩ := ht.ind
  have hr := hS.own _ _ ht.hp.r
  refine c_seq ?_
  refine c_region (by kernel_rfl) ?_
  refine st_q (ok_move (v := .pointer _) rfl ⟨rfl, rfl, rfl⟩) ?_
  refine st_q (ok_nilCheck_ptr rfl ⟨rfl, rfl, rfl⟩) ?_
  refine st_q (ok_fieldAddr (fld rfl) rfl ⟨rfl, rfl, rfl⟩) ?_
  refine st_q (ok_load (ty rfl) rfl hr (by rfl) ⟨rfl, rfl, rfl⟩) ?_
  refine st_q (ok_move (v := .int _ _) rfl ⟨rfl, rfl, rfl⟩) ?_
  refine st_q (ok_indexAddr (sl rfl) (ty rfl) rfl rfl (by omega) (by omega) (off := j) (by omega) ⟨rfl, rfl, rfl⟩) ?_
  refine st_q (ok_load (ty rfl) rfl (hS.own _ _ d1) (d3 j hj) ⟨rfl, rfl, rfl⟩) ?_
  refine st_q (v := .int .i64 ((dg j - 1 : Nat) : Int)) (ok_sub rfl rfl (by omega) (by omega) ⟨by congr 1; omega, rfl, rfl⟩) ?_
  refine st_q (ok_indexAddr (sl rfl) (ty rfl) rfl rfl (by omega) (by omega) (off := j) (by omega) ⟨rfl, rfl, rfl⟩) ?_
  refine st0 (ok_store (ty rfl) rfl (v := .int _ _) rfl rfl (hS.own _ _ d1) (by omega) ?_)
  refine o_nil ?_
  have hS1 := hS.set d1 (.cells (setA ds j (.int .i64 ((dg j - 1 : Nat) : Int))) 3 (0, 0))
  have ht1 : TS _ an n nc bs bt bi bl bp v rd (dec dg j) := ht.setInd (ds := setA ds j (.int .i64 ((dg j - 1 : Nat) : Int))) ⟨ds, d1⟩ (by rw [setA_size]; exact d2) (fun k hk => by
    by_cases e : k = j
    · subst e; simp only [dec, if_true]; exact setA_same _ _ (by omega)
    · rw [setA_ne _ _ (fun x => e x.symm)]; simp only [dec, e, if_false]; exact d3 k hk)
  refine c_heap (fun h' _ => ∃ m, Sep m X h' ∧ TS m an n nc bs bt bi bl bp v rd (dec dg j)) ⟨_, hS1, ht1⟩ ?_
  clear hS1 ht1 hr hS
  rintro h1 N1 ⟨m1, hS, ht⟩
  obtain ⟨ds, d1, d2, d3⟩ := ht.ind
  have hr := hS.own _ _ ht.hp.r
  have hdj := d3 j hj
  simp only [dec, if_true] at hdj
  refine c_seq ?_
  refine c_region (by kernel_rfl) ?_
  refine st_q (ok_move (v := .pointer _) rfl ⟨rfl, rfl, rfl⟩) ?_
  refine st_q (ok_nilCheck_ptr rfl ⟨rfl, rfl, rfl⟩) ?_
  refine st_q (ok_fieldAddr (fld rfl) rfl ⟨rfl, rfl, rfl⟩) ?_
  refine st_q (ok_load (ty rfl) rfl hr (by rfl) ⟨rfl, rfl, rfl⟩) ?_
  refine st_q (ok_move (v := .int _ _) rfl ⟨rfl, rfl, rfl⟩) ?_
  refine st_q (ok_indexAddr (sl rfl) (ty rfl) rfl rfl (by omega) (by omega) (off := j) (by omega) ⟨rfl, rfl, rfl⟩) ?_
  refine st_q (ok_load (ty rfl) rfl (hS.own _ _ d1) hdj ⟨rfl, rfl, rfl⟩) ?_
  refine st_q (ok_eql rfl rfl ⟨rfl, rfl, rfl⟩) ?_
  refine o_nil ?_
  refine n_then ?_
  refine c_cond_prop rfl (fun hc => ?_) (fun hc => ?_)
  · skip
    have h1 : dg j = 1 := by omega
    refine c_region (by kernel_rfl) ?_
    refine st_q (ok_move (v := .pointer _) rfl ⟨rfl, rfl, rfl⟩) ?_
    refine st_q (ok_nilCheck_ptr rfl ⟨rfl, rfl, rfl⟩) ?_
    refine st_q (ok_fieldAddr (fld rfl) rfl ⟨rfl, rfl, rfl⟩) ?_
    refine st_q (ok_makeInterface ptr120 (by intro ms e; cases e) rfl ⟨rfl, rfl, rfl⟩) ?_
    refine st_q (ok_move (v := .int _ _) rfl ⟨rfl, rfl, rfl⟩) ?_
    refine st_q (ok_makeInterface u3 (by intro ms e; cases e) rfl ⟨rfl, rfl, rfl⟩) ?_
    refine st (ok_call rfl ent38 (heapPush_ok (x := j) hS ht.hp hl) rfl ?_)
    rintro _ h2 N2 ⟨rfl, m2, v2, ys, hS2, hp2, hys, hk2⟩
    refine o_nil ?_
    exact n_leave (leave_none rfl ⟨rfl, m2, v2, ys, hS2, ht.push hp2 hk2, by rw [if_pos h1]; exact hys⟩)
  · refine c_skip ?_
    exact n_leave (leave_none rfl ⟨rfl, m1, v, rd, hS, ht, by rw [if_neg (by omega)]⟩)

theorem TS.setPl {ps : Array Value} (ht : TS m an n nc bs bt bi bl bp v rd dg) (hps : ∃ ps, m bp = some (.cells ps 4 (0, 0))) (hn : ps.size = n) : TS (hset m bp (.cells ps 4 (0, 0))) an n nc bs bt bi bl bp v rd dg := by
  obtain ⟨p0, p1⟩ := hps
  obtain ⟨ds, d1, d2⟩ := ht.ind
  exact ⟨⟨(hset_ne _ _ (ne_of_ty p1 ht.hp.r rfl).symm).trans ht.hp.r, ht.hp.f, ht.hp.own.off (ht.npl p1) _, ht.hp.te⟩, ⟨ds, (hset_ne _ _ (ne_of_ty p1 d1 rfl).symm).trans d1, d2⟩, ⟨ps, hset_same _ _ _, hn⟩, ht.ni⟩

theorem cnt_le {S : Nat → List Nat} {ord : List Nat} : cnt n S ord j ≤ n := by
  have := List.length_filter_le (fun k => decide (k ∉ ord ∧ j ∈ S k)) (List.range n)
  rw [List.length_range] at this
  exact this
theorem nd_len {l : List Nat} (hn : l.Nodup) (hlt : ∀ j, j ∈ l → j < n) : l.length ≤ n := by
  have := List.Nodup.length_le_of_subset hn (l₂ := List.range n) (fun x hx => List.mem_range.2 (hlt x hx))
  rwa [List.length_range] at this

/-- A row of numbers that is the others' and grows. -/
theorem Sep.growX {b' N' c co : Nat} {v : Value} {cs : Array Value} {o : Obj} (hS : Sep m X h) (hv : v = .slice (some ⟨co, 0, none⟩) c N') (hb : X co = some (.cells cs 3 (0, 0))) (hG : Grown h N b' j 3 v) : Sep m (hset X b' o) (hset h b' o) ∧ (h b' = none ∨ b' = co) := by
  rcases hG.or hS.oth with ⟨h1, _⟩ | h1
  · exact ⟨hS.newX h1 o, .inl h1⟩
  · rw [hv] at h1; cases h1
    exact ⟨hS.setX hb o, .inr rfl⟩

theorem run_ok {S : Nat → List Nat} {V : Nat → Value} (hS : Sep m X h) (ht : TS m an n nc bs bt bi bl bp v [] dg) (hG : Rows X bs n V S) (hSn : ∀ i, i < n → (S i).Nodup) (hSl : ∀ i, i < n → ∀ k, k ∈ S i → k < n) (hd : ∀ k, k < n → dg k = cnt n S [] k) (hn : n ≤ 100) :
    CallsX Ybaz.prog w0 22 #[.pointer (some ⟨bt, 0, none⟩), .nilFunc] h N (fun u h' _ => ∃ m' X' v' ord dg' bo co cs, u = .tuple #[.slice (some ⟨bo, 0, none⟩) ord.length co, .bool (decide ((ord.length : Int) = (n : Int)))] ∧ Sep m' X' h' ∧ Ext X X' ∧ X bo = none ∧ X' bo = some (.cells cs 3 (0, 0)) ∧ cs.size = co * 1 ∧ ord.length ≤ co ∧ cs.toList.take (ord.length * 1) = ints ord ∧ TS m' an n nc bs bt bi bl bp v' [] dg' ∧ TInv n S ord [] dg') := by
  refine calls_of Ybaz.func22 rfl Ybaz.ntmps22 (Nat.le_of_ble_eq_true rfl) ?_
  refine c_seq ?_
  refine c_region (by kernel_rfl) ?_
  refine st_q (ok_assign (v := .slice _ _ _) rfl ⟨rfl, rfl, rfl⟩) ?_
  refine st_q (ok_assign (v := .bool _) rfl ⟨rfl, rfl, rfl⟩) ?_
  refine o_nil ?_
  refine n_then ?_
  refine c_seq ?_
  refine c_seq ?_
  refine c_region (by kernel_rfl) ?_
  refine st_q (ok_move (v := .pointer _) rfl ⟨rfl, rfl, rfl⟩) ?_
  refine st_q (ok_nilCheck_ptr rfl ⟨rfl, rfl, rfl⟩) ?_
  refine st_q (ok_fieldAddr (fld rfl) rfl ⟨rfl, rfl, rfl⟩) ?_
  refine st_q (ok_load (ty rfl) rfl (hS.own _ _ ht.hp.r) (by rfl) ⟨rfl, rfl, rfl⟩) ?_
  refine st_q (ok_len (sl rfl) rfl ⟨rfl, rfl, rfl⟩) ?_
  refine st_q (ok_move (v := .int _ _) rfl ⟨rfl, rfl, rfl⟩) ?_
  refine o_nil ?_
  refine n_then ?_
  refine c_block ?_
  refine c_loop (fun k E h' _ D => D = [] ∧ k ≤ n ∧ Fr E [(0, .pointer (some ⟨bt, 0, none⟩)), (1, .nilFunc), (22, .slice (some ⟨bi, 0, none⟩) n n), (23, .int .i64 (n : Int)), (24, .int .i64 ((n - k : Nat) : Int))] ∧ ∃ m v rd, Sep m X h' ∧ TS m an n nc bs bt bi bl bp v rd dg ∧ rd.Perm ((List.range (n - k)).filter (fun j => decide (dg j = 0)))) (k := n) ⟨rfl, Nat.le_refl _, ⟨rfl, rfl, rfl, rfl, by simp [upd], trivial⟩, m, v, [], hS, ht, by simp⟩ ?_
  clear hS ht
  rintro k E h1 N1 D ⟨rfl, hk, hE, m1, v1, rd1, hS, ht, hrd⟩
  obtain ⟨E0, rfl⟩ := hE.ex
  refine c_seq ?_
  refine c_region (by kernel_rfl) ?_
  refine st_q (ok_lss rfl rfl ⟨rfl, rfl, rfl⟩) ?_
  refine o_nil ?_
  refine n_then ?_
  refine c_seq ?_
  refine c_cond_prop rfl (fun hc => ?_) (fun hc => ?_)
  · skip
    generalize hi : n - k = i at *
    obtain ⟨ds, d1, d2, d3⟩ := ht.ind
    have hin : i < n := by omega
    have e1 : n - (k - 1) = i + 1 := by omega
    have hrng : (List.range (i + 1)).filter (fun j => decide (dg j = 0)) = (List.range i).filter (fun j => decide (dg j = 0)) ++ (if dg i = 0 then [i] else []) := by
      rw [List.range_succ, List.filter_append]
      congr 1
      by_cases h0 : dg i = 0 <;> simp [h0]
    have hrl : rd1.length ≤ n := by
      rw [hrd.length_eq]
      have := List.length_filter_le (fun j => decide (dg j = 0)) (List.range i)
      rw [List.length_range] at this
      omega
    refine c_skip ?_
    refine n_then ?_
    refine c_seq ?_
    refine c_block ?_
    refine c_seq ?_
    refine c_region (by kernel_rfl) ?_
    refine st_q (ok_move (v := .int _ _) rfl ⟨rfl, rfl, rfl⟩) ?_
    refine st_q (ok_indexAddr (sl rfl) (ty rfl) rfl rfl (by omega) (by omega) (off := i) (by omega) ⟨rfl, rfl, rfl⟩) ?_
    refine st_q (ok_load (ty rfl) rfl (hS.own _ _ d1) (d3 i hin) ⟨rfl, rfl, rfl⟩) ?_
    refine st_q (ok_assign (v := .int _ _) rfl ⟨rfl, rfl, rfl⟩) ?_
    refine st_q (ok_assign (v := .int _ _) rfl ⟨rfl, rfl, rfl⟩) ?_
    refine o_nil ?_
    refine n_then ?_
    refine c_seq ?_
    refine c_region (by kernel_rfl) ?_
    refine st_q (ok_move (v := .int _ _) rfl ⟨rfl, rfl, rfl⟩) ?_
    refine st_q (ok_eql rfl rfl ⟨rfl, rfl, rfl⟩) ?_
    refine o_nil ?_
    refine n_then ?_
    refine c_cond_prop rfl (fun h0 => ?_) (fun h0 => ?_)
    · skip
      refine c_region (by kernel_rfl) ?_
      refine st_q (ok_move (v := .pointer _) rfl ⟨rfl, rfl, rfl⟩) ?_
      refine st_q (ok_nilCheck_ptr rfl ⟨rfl, rfl, rfl⟩) ?_
      refine st_q (ok_fieldAddr (fld rfl) rfl ⟨rfl, rfl, rfl⟩) ?_
      refine st_q (ok_makeInterface ptr120 (by intro ms e; cases e) rfl ⟨rfl, rfl, rfl⟩) ?_
      refine st_q (ok_move (v := .int _ _) rfl ⟨rfl, rfl, rfl⟩) ?_
      refine st_q (ok_makeInterface u3 (by intro ms e; cases e) rfl ⟨rfl, rfl, rfl⟩) ?_
      refine st (ok_call rfl ent38 (heapPush_ok (x := i) hS ht.hp (by omega)) rfl ?_)
      rintro _ h2 N2 ⟨rfl, m2, v2, ys, hS2, hp2, hys, hk2⟩
      refine o_nil ?_
      refine n_block (n_then ?_)
      refine c_region (by kernel_rfl) ?_
      refine st_q (ok_add rfl rfl (by omega) (by omega) ⟨rfl, rfl, rfl⟩) ?_
      refine st_q (ok_move (v := .int _ _) rfl ⟨rfl, rfl, rfl⟩) ?_
      refine o_nil ?_
      refine n_then ⟨k - 1, by omega, rfl, by omega, ⟨rfl, rfl, rfl, rfl, ?_, trivial⟩, m2, v2, ys, hS2, ht.push hp2 hk2, ?_⟩
      · rw [e1]; rfl
      · rw [e1, hrng, if_pos (by omega)]
        exact hys.trans ((List.Perm.cons i hrd).trans (List.perm_append_comm (l₁ := [i])))
    · skip
      refine c_skip ?_
      refine n_block (n_then ?_)
      refine c_region (by kernel_rfl) ?_
      refine st_q (ok_add rfl rfl (by omega) (by omega) ⟨rfl, rfl, rfl⟩) ?_
      refine st_q (ok_move (v := .int _ _) rfl ⟨rfl, rfl, rfl⟩) ?_
      refine o_nil ?_
      refine n_then ⟨k - 1, by omega, rfl, by omega, ⟨rfl, rfl, rfl, rfl, ?_, trivial⟩, m1, v1, rd1, hS, ht, ?_⟩
      · rw [e1]; rfl
      · rw [e1, hrng, if_neg (by omega), List.append_nil]; exact hrd
  obtain rfl : k = 0 := by omega
  clear hc hk
  rw [Nat.sub_zero] at hrd
  refine c_exit ?_
  refine x_then (x_then (x_block (n_then ?_)))
  have hT0 : TInv n S [] rd1 dg := by
    refine TInv.perm ?_ hrd
    refine ⟨?_, ?_, hd, ?_, ?_, ?_⟩
    · exact List.Nodup.sublist List.filter_sublist List.nodup_range
    · intro j hj; simp at hj; exact hj.1
    · intro j hj h0; simp [hj, h0]
    · intro j hj; simp at hj; exact hj.2
    · intro l1 j l2 hl; cases l1 <;> cases hl
  refine c_seq ?_
  refine c_region (by kernel_rfl) ?_
  refine st_q (ok_move (v := .pointer _) rfl ⟨rfl, rfl, rfl⟩) ?_
  refine st_q (ok_nilCheck_ptr rfl ⟨rfl, rfl, rfl⟩) ?_
  refine st_q (ok_fieldAddr (fld rfl) rfl ⟨rfl, rfl, rfl⟩) ?_
  refine st_q (ok_fieldAddr (fld rfl) rfl ⟨rfl, rfl, rfl⟩) ?_
  refine st_q (ok_load (ty rfl) rfl (hS.own _ _ ht.hp.r) (by rfl) ⟨rfl, rfl, rfl⟩) ?_
  refine st_q (ok_len (sl rfl) rfl ⟨rfl, rfl, rfl⟩) ?_
  refine st (ok_makeSlice (sl rfl) (ty rfl) rfl rfl (by omega) (by omega) (by omega) (by omega) (l' := 0) (c' := n) (by omega) (by omega) (fun hN45 => ?_))
  refine st_q (ok_assign (v := .slice _ _ _) rfl ⟨rfl, rfl, rfl⟩) ?_
  refine o_nil ?_
  have hXN : X N1 = none := hS.oth.back (hN45 _ (Nat.le_refl _))
  have hS := hS.newX (hN45 _ (Nat.le_refl _)) (.cells (madeCells #[.int .i64 0] (n * 1)) 3 (0, 0))
  refine n_then ?_
  refine c_seq ?_
  refine c_block ?_
  refine c_loop (fun k E h' _ D => D = [] ∧ ∃ m X2 v rd ord dg bo co cs, Fr E [(0, .pointer (some ⟨bt, 0, none⟩)), (1, .nilFunc), (8, .slice (some ⟨bo, 0, none⟩) ord.length co)] ∧ Sep m X2 h' ∧ Ext X X2 ∧ X bo = none ∧ X2 bo = some (.cells cs 3 (0, 0)) ∧ cs.size = co * 1 ∧ ord.length ≤ co ∧ cs.toList.take (ord.length * 1) = ints ord ∧ TS m an n nc bs bt bi bl bp v rd dg ∧ TInv n S ord rd dg ∧ k = n - ord.length) (k := n - 0)
    ⟨rfl, m1, _, v1, rd1, [], dg, N1, n, _, ⟨rfl, rfl, rfl, trivial⟩, hS, (Ext.refl X).fresh hXN _, hXN, hset_same _ _ _, by rw [made_size, Nat.mul_one], Nat.zero_le _, by simp [ints], ht, hT0, rfl⟩ ?_
  clear hS ht hrd hT0 hXN
  rintro k E h2 N2 D ⟨rfl, m2, X2, v2, rd, ord, dg2, bo, co, cs, hE, hS, hXX, hXb, gb, gbn, gbl, gbv, ht, hT, rfl⟩
  obtain ⟨E1, rfl⟩ := hE.ex
  have hol : ord.length ≤ n := nd_len (List.nodup_append.1 hT.nd).1 (fun j hj => hT.lt j (by simp [hj]))
  refine c_seq ?_
  refine c_seq ?_
  refine c_region (by kernel_rfl) ?_
  refine st_q (ok_move (v := .pointer _) rfl ⟨rfl, rfl, rfl⟩) ?_
  refine st_q (ok_nilCheck_ptr rfl ⟨rfl, rfl, rfl⟩) ?_
  refine st_q (ok_fieldAddr (fld rfl) rfl ⟨rfl, rfl, rfl⟩) ?_
  refine st_q (ok_load (ty rfl) rfl (hS.own _ _ ht.hp.r) (by rfl) ⟨rfl, rfl, rfl⟩) ?_
  refine st (ok_call rfl ent39 (hlen_ok (ht.hp.own.ext hS.own)) rfl ?_)
  rintro _ h3 N3 ⟨rfl, rfl, rfl⟩
  refine st_q (ok_gtr rfl rfl ⟨rfl, rfl, rfl⟩) ?_
  refine o_nil ?_
  refine n_then ?_
  refine c_cond_prop rfl (fun hc => ?_) (fun hc => ?_)
  · skip
    have hpos : 0 < rd.length := by omega
    have hrl : rd.length ≤ n := nd_len (List.nodup_append.1 hT.nd).2.1 (fun j hj => hT.lt j (by simp [hj]))
    refine c_skip ?_
    refine n_then ?_
    refine c_block ?_
    refine c_seq ?_
    refine c_region (by kernel_rfl) ?_
    refine st_q (ok_move (v := .pointer _) rfl ⟨rfl, rfl, rfl⟩) ?_
    refine st_q (ok_nilCheck_ptr rfl ⟨rfl, rfl, rfl⟩) ?_
    refine st_q (ok_fieldAddr (fld rfl) rfl ⟨rfl, rfl, rfl⟩) ?_
    refine st_q (ok_makeInterface ptr120 (by intro ms e; cases e) rfl ⟨rfl, rfl, rfl⟩) ?_
    refine st (ok_call rfl ent40 (heapPop_ok hS ht.hp hpos (by omega)) rfl ?_)
    rintro _ h3 N3 ⟨i, m3, v3, rd3, rfl, hS3, hp3, hpm3, hk3⟩
    refine st_q (ok_typeAssert u3 (by intro ms e; cases e) rfl ⟨rfl, rfl, rfl⟩) ?_
    refine st_q (ok_assign (v := .int _ _) rfl ⟨rfl, rfl, rfl⟩) ?_
    refine o_nil ?_
    have ht3 := ht.push hp3 hk3
    have hM := (hT.perm hpm3).pop
    have hin : i < n := hM.lt i (by simp)
    have hol2 : (ord ++ [i]).length ≤ n := nd_len (List.nodup_append.1 hM.nd).1 (fun j hj => hM.lt j (List.mem_append_left _ hj))
    have hol3 : ord.length + 1 ≤ n := by simpa using hol2
    refine n_then ?_
    refine c_seq ?_
    have own : ∀ hh, Ext X2 hh → Own hh 3 1 (.slice (some ⟨bo, 0, none⟩) ord.length co) (ints ord) := fun hh hx => .inr ⟨bo, ord.length, co, cs, rfl, hx _ _ gb, gbn, gbl, by simp [ints], gbv⟩
    have hnw := hset_same h3 N3 (.cells #[.int .i64 (i : Int)] 3 (0, 0))
    have hli : (ints ord).length ≤ 100 := by simp only [ints, List.length_map]; omega
    refine c_region (by kernel_rfl) ?_
    refine st_q (ok_move (v := .slice _ _ _) rfl ⟨rfl, rfl, rfl⟩) ?_
    refine st_q (ok_move (v := .int _ _) rfl ⟨rfl, rfl, rfl⟩) ?_
    refine st (ok_buildSlice (sl rfl) (ty rfl) rfl (vs := #[.int .i64 (i : Int)]) (by kernel_rfl) (by decide) (by decide) (fun hN60 => ?_))
    refine st (ok_append rfl (sl rfl) (ty rfl) rfl rfl (own _ (hS3.oth.trans (Ext.push hN60 _))) rfl hnw (Nat.le_of_ble_eq_true rfl) (by simp [isOne]) (by decide) (by decide) (by omega) (by omega) (fun b' n' c' cs' N4 hcase hcz hnc hln htk hnq => ?_))
    refine st_q (ok_assign (v := .slice _ _ _) rfl ⟨rfl, rfl, rfl⟩) ?_
    refine o_nil ?_
    have hG4 : Grown _ _ b' N4 3 (.slice (some ⟨bo, 0, none⟩) ord.length co) := hcase
    obtain ⟨hS4, hb4⟩ := (hS3.fresh (hN60 _ (Nat.le_refl _)) (.cells #[.int .i64 (i : Int)] 3 (0, 0))).growX (o := .cells cs' 3 (0, 0)) rfl gb hG4
    have hXb4 : X b' = none := by
      rcases hb4 with h5 | h5
      · exact hXX.back ((hS3.oth.trans (Ext.push hN60 _)).back h5)
      · rw [h5]; exact hXb
    have hn' : n' = (ord ++ [i]).length := by simp only [ints, List.length_map] at hnq; simp; omega
    subst hn'
    have gbv4 : cs'.toList.take ((ord ++ [i]).length * 1) = ints (ord ++ [i]) := by rw [htk]; simp [ints]
    have hXX4 : Ext X (hset X2 b' (.cells cs' 3 (0, 0))) := hXX.fresh hXb4 _
    refine n_then ?_
    refine c_seq ?_
    refine c_heap (fun h' _ => Sep m3 (hset X2 b' (.cells cs' 3 (0, 0))) h') hS4 ?_
    clear hS4 hS3 hnw
    intro h4 N4' hS4
    obtain ⟨ps, p1, p2⟩ := ht3.pl
    refine c_region (by kernel_rfl) ?_
    refine st_q (ok_move (v := .pointer _) rfl ⟨rfl, rfl, rfl⟩) ?_
    refine st_q (ok_nilCheck_ptr rfl ⟨rfl, rfl, rfl⟩) ?_
    refine st_q (ok_fieldAddr (fld rfl) rfl ⟨rfl, rfl, rfl⟩) ?_
    refine st_q (ok_load (ty rfl) rfl (hS4.own _ _ ht3.hp.r) (by rfl) ⟨rfl, rfl, rfl⟩) ?_
    refine st_q (ok_move (v := .int _ _) rfl ⟨rfl, rfl, rfl⟩) ?_
    refine st_q (ok_indexAddr (sl rfl) (ty rfl) rfl rfl (by omega) (by omega) (off := i) (by omega) ⟨rfl, rfl, rfl⟩) ?_
    refine st0 (ok_store (ty rfl) rfl (v := .bool _) rfl rfl (hS4.own _ _ p1) (by omega) ?_)
    refine o_nil ?_
    have hS5 := hS4.set p1 (.cells (setA ps i (.bool true)) 4 (0, 0))
    have ht5 := ht3.setPl (ps := setA ps i (.bool true)) ⟨ps, p1⟩ (by rw [setA_size]; exact p2)
    refine n_then ?_
    refine c_seq ?_
    refine c_seq ?_
    refine c_heap (fun h' _ => ∃ m, Sep m (hset X2 b' (.cells cs' 3 (0, 0))) h' ∧ TS m an n nc bs bt bi bl bp v3 rd3 dg2) ⟨_, hS5, ht5⟩ ?_
    clear hS5 ht5 hS4 ht3 p1 hp3 hk3
    rintro h5 N5 ⟨m5, hS5, ht5⟩
    obtain ⟨vs, g1, g2, g3⟩ := hG.top
    obtain ⟨ai, ci, hVi, hci, hrow⟩ := (hG.own i hin).row
    have gvi := (g3 i hin).trans (congrArg some hVi)
    have hXh := hXX4.trans hS5.oth
    have hSi : (S i).length ≤ 100 := Nat.le_trans (nd_len (hSn i hin) (hSl i hin)) hn
    refine c_region (by kernel_rfl) ?_
    refine st_q (ok_move (v := .pointer _) rfl ⟨rfl, rfl, rfl⟩) ?_
    refine st_q (ok_nilCheck_ptr rfl ⟨rfl, rfl, rfl⟩) ?_
    refine st_q (ok_fieldAddr (fld rfl) rfl ⟨rfl, rfl, rfl⟩) ?_
    refine st_q (ok_fieldAddr (fld rfl) rfl ⟨rfl, rfl, rfl⟩) ?_
    refine st_q (ok_load (ty rfl) rfl (hS5.own _ _ ht5.hp.r) (by rfl) ⟨rfl, rfl, rfl⟩) ?_
    refine st_q (ok_move (v := .int _ _) rfl ⟨rfl, rfl, rfl⟩) ?_
    refine st_q (ok_indexAddr (sl rfl) (ty rfl) rfl rfl (by omega) (by omega) (off := i) (by omega) ⟨rfl, rfl, rfl⟩) ?_
    refine st_q (ok_load (ty rfl) rfl (hXh _ _ g1) gvi ⟨rfl, rfl, rfl⟩) ?_
    refine st_q (ok_len (sl rfl) rfl ⟨rfl, rfl, rfl⟩) ?_
    refine st_q (ok_move (v := .int _ _) rfl ⟨rfl, rfl, rfl⟩) ?_
    refine o_nil ?_
    refine n_then ?_
    refine c_block ?_
    refine c_loop (fun k E h' _ D => D = [] ∧ k ≤ (S i).length ∧ Fr E [(0, .pointer (some ⟨bt, 0, none⟩)), (1, .nilFunc), (8, .slice (some ⟨b', 0, none⟩) (ord ++ [i]).length c'), (9, .int .i64 (i : Int)), (75, .slice ai (S i).length ci), (76, .int .i64 ((S i).length : Int)), (77, .int .i64 (((S i).length - k : Nat) : Int))] ∧ ∃ m v rd dg, Sep m (hset X2 b' (.cells cs' 3 (0, 0))) h' ∧ TS m an n nc bs bt bi bl bp v rd dg ∧ TMid n S ord i rd dg ((S i).length - k)) (k := (S i).length) ⟨rfl, Nat.le_refl _, ⟨rfl, rfl, rfl, rfl, rfl, rfl, by simp [upd], trivial⟩, m5, v3, rd3, dg2, hS5, ht5, by rw [Nat.sub_self]; exact hM⟩ ?_
    clear hS5 ht5 hM hXh
    rintro k E h6 N6 D ⟨rfl, hk, hE, m6, v6, rd6, dg6, hS6, ht6, hM⟩
    obtain ⟨E2, rfl⟩ := hE.ex
    have hXh := hXX4.trans hS6.oth
    refine c_seq ?_
    refine c_region (by kernel_rfl) ?_
    refine st_q (ok_lss rfl rfl ⟨rfl, rfl, rfl⟩) ?_
    refine o_nil ?_
    refine n_then ?_
    refine c_seq ?_
    refine c_cond_prop rfl (fun hc2 => ?_) (fun hc2 => ?_)
    · skip
      generalize hq : (S i).length - k = q at *
      have hqS : q < (S i).length := by omega
      have gq : (S i)[q]? = some ((S i)[q]) := List.getElem?_eq_getElem hqS
      obtain ⟨rb, rcs, rfl, hrb, hrv⟩ := hrow q _ gq
      have hjn : (S i)[q] < n := hSl i hin _ (List.getElem_mem hqS)
      obtain ⟨hd1, hstep⟩ := hM.step (hSn i hin) gq hjn
      have hdl : dg6 (S i)[q] ≤ 1000 := by
        rw [hM.deg _ hjn]
        have := cnt_le (n := n) (S := S) (ord := ord ++ [i]) (j := (S i)[q])
        split <;> omega
      have hr6 : rd6.length ≤ n := nd_len (List.nodup_append.1 hM.nd).2.1 (fun j hj => hM.lt j (List.mem_append_right _ hj))
      refine c_skip ?_
      refine n_then ?_
      refine c_seq ?_
      refine c_block ?_
      refine c_seq ?_
      refine c_region (by kernel_rfl) ?_
      refine st_q (ok_indexAddr (sl rfl) (ty rfl) rfl rfl (by omega) (by omega) (off := q) (by omega) ⟨rfl, rfl, rfl⟩) ?_
      refine st_q (ok_load (ty rfl) rfl (hXh _ _ hrb) hrv ⟨rfl, rfl, rfl⟩) ?_
      refine st_q (ok_assign (v := .int _ _) rfl ⟨rfl, rfl, rfl⟩) ?_
      refine o_nil ?_
      refine n_then ?_
      refine c_region (by kernel_rfl) ?_
      refine st_q (ok_move (v := .pointer _) rfl ⟨rfl, rfl, rfl⟩) ?_
      refine st_q (ok_move (v := .int _ _) rfl ⟨rfl, rfl, rfl⟩) ?_
      refine st (ok_call rfl ent41 (countDown_ok hS6 ht6 hjn hd1 hdl (by omega)) rfl ?_)
      rintro _ h7 N7 ⟨rfl, m7, v7, rd7, hS7, ht7, hp7⟩
      refine o_nil ?_
      refine n_block (n_then ?_)
      refine c_region (by kernel_rfl) ?_
      refine st_q (ok_add rfl rfl (by omega) (by omega) ⟨rfl, rfl, rfl⟩) ?_
      refine st_q (ok_move (v := .int _ _) rfl ⟨rfl, rfl, rfl⟩) ?_
      refine o_nil ?_
      have hq1 : (S i).length - (k - 1) = q + 1 := by omega
      refine n_then ⟨k - 1, by omega, rfl, by omega, ⟨rfl, rfl, rfl, rfl, rfl, rfl, ?_, trivial⟩, m7, v7, rd7, _, hS7, ht7, ?_⟩
      · rw [hq1]; rfl
      · rw [hq1]; exact hstep _ hp7
    · skip
      obtain rfl : k = 0 := by omega
      rw [Nat.sub_zero] at hM
      refine c_exit ?_
      refine x_then (x_then (x_block (n_then ?_)))
      refine c_seq ?_
      refine c_seq ?_
      refine c_region (by kernel_rfl) ?_
      refine st_q (ok_move (v := .pointer _) rfl ⟨rfl, rfl, rfl⟩) ?_
      refine st_q (ok_nilCheck_ptr rfl ⟨rfl, rfl, rfl⟩) ?_
      refine st_q (ok_fieldAddr (fld rfl) rfl ⟨rfl, rfl, rfl⟩) ?_
      refine st_q (ok_loadAgg (ty rfl) rfl (hS6.own _ _ ht6.hp.r) (Nat.le_of_ble_eq_true rfl) rfl ⟨rfl, rfl, rfl⟩) ?_
      refine st_q (ok_move (v := .int _ _) rfl ⟨rfl, rfl, rfl⟩) ?_
      refine st (ok_call rfl ent42 (fansAt_ok) rfl ?_)
      rintro _ h7 N7 ⟨rfl, hx7⟩
      refine st_q (ok_len (sl rfl) rfl ⟨rfl, rfl, rfl⟩) ?_
      refine st_q (ok_move (v := .int _ _) rfl ⟨rfl, rfl, rfl⟩) ?_
      refine o_nil ?_
      have hS7 := hS6.ext hx7
      refine n_then ?_
      refine c_block ?_
      refine c_loop1 ?_
      refine c_seq ?_
      refine c_region (by kernel_rfl) ?_
      refine st_q (ok_lss_f rfl rfl ((by decide)) ⟨rfl, rfl, rfl⟩) ?_
      refine o_nil ?_
      refine n_then ?_
      refine c_seq ?_
      refine c_cond_false rfl ?_
      refine c_exit ?_
      refine x_then (x_then (x_block (n_then ?_)))
      refine c_seq ?_
      refine c_region (by kernel_rfl) ?_
      refine st_q (ok_move (v := .nilFunc) rfl ⟨rfl, rfl, rfl⟩) ?_
      refine st_q (ok_val (v := .bool false) (fun _ => by kernel_rfl) ⟨rfl, rfl, rfl⟩) ?_; refine o_nil ?_
      refine n_then ?_
      refine c_cond_false rfl ?_
      refine c_skip ?_
      refine n_block (n_then ?_)
      refine ⟨n - (ord ++ [i]).length, ?_, rfl, m6, _, v6, rd6, ord ++ [i], dg6, b', c', cs', ⟨rfl, rfl, rfl, trivial⟩, hS7, hXX4, hXb4, hset_same _ _ _, hcz, hnc, gbv4, ht6, hM.done, rfl⟩
      simp; omega
  · skip
    have hrd0 : rd = [] := List.eq_nil_of_length_eq_zero (by omega)
    subst hrd0
    refine c_exit ?_
    refine x_then (x_then (x_block (n_then ?_)))
    refine c_seq ?_
    refine c_draw mixed [] 12 rfl [((0, 2), [((1, 2), [((2, 2), [((3, 2), [((4, 2), [((5, 2), [((6, 2), [((7, 1), [((8, 2), [((9, 2), [((10, 2), [((11, 2), ())])])])])])])])])])])])] (by kernel_rfl) (by kernel_rfl) ?_
    refine w_p rfl (fun _ _ => ok_move (v := .slice _ _ _) rfl ⟨rfl, rfl, rfl⟩) ?_
    refine w_p rfl (fun _ _ => ok_move (v := .slice _ _ _) rfl ⟨rfl, rfl, rfl⟩) ?_
    refine w_p rfl (fun _ _ => ok_len (sl rfl) rfl ⟨rfl, rfl, rfl⟩) ?_
    refine w_p rfl (fun _ _ => ok_move (v := .pointer _) rfl ⟨rfl, rfl, rfl⟩) ?_
    refine w_p rfl (fun _ _ => ok_nilCheck_ptr rfl ⟨rfl, rfl, rfl⟩) ?_
    refine w_p rfl (fun _ _ => ok_fieldAddr (fld rfl) rfl ⟨rfl, rfl, rfl⟩) ?_
    refine w_p rfl (fun _ _ => ok_fieldAddr (fld rfl) rfl ⟨rfl, rfl, rfl⟩) ?_
    refine w_r rfl (fun _ _ hExt => ok_load (ty rfl) rfl (hExt _ _ (hS.own _ _ ht.hp.r)) (by rfl) ⟨rfl, rfl, rfl⟩) ?_
    refine w_p rfl (fun _ _ => ok_len (sl rfl) rfl ⟨rfl, rfl, rfl⟩) ?_
    refine w_p rfl (fun _ _ => ok_eql rfl rfl ⟨rfl, rfl, rfl⟩) ?_
    refine w_p rfl (fun _ _ => ok_assign (v := .slice _ _ _) rfl ⟨rfl, rfl, rfl⟩) ?_
    refine w_p rfl (fun _ _ => ok_assign (v := .bool _) rfl ⟨rfl, rfl, rfl⟩) ?_
    refine w_nil ?_
    refine n_then ?_
    refine c_ret ?_
    exact r_leave (leave_tmp2 rfl rfl rfl ⟨m2, X2, v2, ord, dg2, bo, co, cs, rfl, hS, hXX, hXb, gb, gbn, gbl, gbv, ht, hT⟩)
end
end Sx
end Go.Proofs.YbulkcsqkGreat
