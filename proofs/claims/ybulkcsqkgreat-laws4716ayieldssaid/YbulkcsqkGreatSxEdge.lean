import Derived.Test.YbulkcsqkGreatSxSep
namespace Go.Proofs.YbulkcsqkGreat
namespace Sx
set_option maxRecDepth 10000
variable {w0 : World}

theorem map65 : Ybaz.prog.underlying 65 = some (.map 3 4) := by kernel_rfl
theorem int3 : Ybaz.prog.underlying 3 = some (.int .i64) := by kernel_rfl

/-- A set of edges: R i holds the nodes that node i has an edge to. -/
structure ES (m : Hp) (be n : Nat) (M : Nat → Option Nat) (R : Nat → List Nat) : Prop where
  top : ∃ ms, m be = some (.cells ms 65 (0, 0)) ∧ ms.size = n ∧ ∀ i, i < n → ms[i]? = some (.map (M i))
  nil : ∀ i, i < n → M i = none → R i = []
  map : ∀ i b, i < n → M i = some b → ∃ es clock, m b = some (.map es clock) ∧ MapI es clock (R i)
  inj : ∀ i j b, i < n → j < n → M i = some b → M j = some b → i = j
theorem ES.ext {m m' : Hp} {be n : Nat} {M : Nat → Option Nat} {R : Nat → List Nat} (he : ES m be n M R) (hx : Ext m m') : ES m' be n M R := by
  obtain ⟨ms, h1, h2⟩ := he.top
  refine ⟨⟨ms, hx _ _ h1, h2⟩, he.nil, fun i b hi hb => ?_, he.inj⟩
  obtain ⟨es, cl, h3, h4⟩ := he.map i b hi hb
  exact ⟨es, cl, hx _ _ h3, h4⟩

section
variable {h m X : Hp} {N be n c f t : Nat} {M : Nat → Option Nat} {R : Nat → List Nat}
theorem add_ok (hS : Sep m X h) (hE : ES m be n M R) (hf : f < n) :
    CallsX Ybaz.prog w0 4 #[.slice (some ⟨be, 0, none⟩) n c, .int .i64 (f : Int), .int .i64 (t : Int)] h N (fun v h' _ => v = .tuple #[] ∧ ∃ m' M', Sep m' X h' ∧ ES m' be n M' (fun i => if i = f then ins (R f) t else R i)) := by
  refine calls_of Ybaz.func4 rfl Ybaz.ntmps4 (Nat.le_of_ble_eq_true rfl) ?_
  obtain ⟨ms, gt, gn, gv⟩ := hE.top
  refine c_seq ?_
  refine c_cut (fun E h' _ D => D = [] ∧ Fr E [(0, .slice (some ⟨be, 0, none⟩) n c), (1, .int .i64 (f : Int)), (2, .int .i64 (t : Int))] ∧ ∃ m' M' b, Sep m' X h' ∧ ES m' be n M' R ∧ M' f = some b) ?_ ?_
  · refine c_seq ?_
    refine c_region (by kernel_rfl) ?_
    refine st_q (ok_move (v := .slice _ _ _) rfl ⟨rfl, rfl, rfl⟩) ?_
    refine st_q (ok_move (v := .int _ _) rfl ⟨rfl, rfl, rfl⟩) ?_
    refine st_q (ok_indexAddr (sl rfl) (ty rfl) rfl rfl (by omega) (by omega) (off := f) (by omega) ⟨rfl, rfl, rfl⟩) ?_
    refine st_q (ok_load (ty rfl) rfl (hS.own _ _ gt) (gv f hf) ⟨rfl, rfl, rfl⟩) ?_
    refine st_q (ok_eql_nilmap map65 rfl rfl ⟨rfl, rfl, rfl⟩) ?_
    refine o_nil ?_
    refine n_then ?_
    cases hM : M f with
    | some b =>
      refine c_cond_false rfl ?_
      exact c_skip (n_then ⟨rfl, ⟨rfl, rfl, rfl, trivial⟩, m, M, b, hS, hE, hM⟩)
    | none =>
      refine c_cond_true rfl ?_
      refine c_region (by kernel_rfl) ?_
      refine st_q (ok_move (v := .slice _ _ _) rfl ⟨rfl, rfl, rfl⟩) ?_
      refine st_q (ok_move (v := .int _ _) rfl ⟨rfl, rfl, rfl⟩) ?_
      refine st (ok_makeMap (fun hN13 => ?_))
      refine st_q (ok_indexAddr (sl rfl) (ty rfl) rfl rfl (by omega) (by omega) (off := f) (by omega) ⟨rfl, rfl, rfl⟩) ?_
      refine st0 (ok_store (ty rfl) rfl (v := .map _) rfl rfl (Ext.push hN13 _ _ _ (hS.own _ _ gt)) (by omega) ?_)
      refine o_nil ?_
      have hmN : m N = none := hS.own.back (hN13 _ (Nat.le_refl _))
      have hne : be ≠ N := ne_of_none gt hmN
      have gt2 : (hset m N (.map #[] 0)) be = some (.cells ms 65 (0, 0)) := (hset_ne _ _ hne).trans gt
      refine n_then ⟨rfl, ⟨rfl, rfl, rfl, trivial⟩, _, fun i => if i = f then some N else M i, N, (hS.push hN13 (.map #[] 0)).set gt2 (.cells (setA ms f (.map (some N))) 65 (0, 0)), ?_, by simp⟩
      have hRf := hE.nil f hf hM
      refine ⟨⟨_, hset_same _ _ _, by rw [setA_size]; exact gn, fun i hi => ?_⟩, fun i hi e => ?_, fun i b hi e => ?_, fun i j b hi hj e1 e2 => ?_⟩
      · by_cases e : i = f
        · subst e; rw [setA_same _ _ (by omega)]; simp
        · rw [setA_ne _ _ (fun x => e x.symm), gv i hi]; simp [e]
      · by_cases e' : i = f
        · subst e'; exact hRf
        · simp only [e', if_false] at e; exact hE.nil i hi e
      · by_cases e' : i = f
        · subst e'
          simp only [if_true] at e; cases e
          refine ⟨#[], 0, (hset_ne _ _ hne.symm).trans (hset_same _ _ _), ?_⟩
          rw [hRf]
          exact ⟨rfl, by simp, by simp, by simp⟩
        · simp only [e', if_false] at e
          obtain ⟨es, cl, h3, h4⟩ := hE.map i b hi e
          refine ⟨es, cl, ?_, h4⟩
          rw [hset_ne _ _ (ne_of_obj h3 gt (by intro q; cases q)), hset_ne _ _ (ne_of_none h3 hmN)]; exact h3
      · by_cases e3 : i = f
        · by_cases e4 : j = f
          · rw [e3, e4]
          · subst e3
            simp only [if_true, e4, if_false] at e1 e2
            cases e1
            obtain ⟨es, cl, h3, _⟩ := hE.map j _ hj e2
            rw [hmN] at h3; cases h3
        · by_cases e4 : j = f
          · subst e4
            simp only [if_true, e3, if_false] at e1 e2
            cases e2
            obtain ⟨es, cl, h3, _⟩ := hE.map i _ hi e1
            rw [hmN] at h3; cases h3
          · simp only [e3, e4, if_false] at e1 e2; exact hE.inj _ _ _ hi hj e1 e2
  clear gt gn gv
  rintro E h1 N1 D ⟨rfl, hEr, m1, M1, b, hS, hE, hM⟩
  obtain ⟨E0, rfl⟩ := hEr.ex
  obtain ⟨ms, gt, gn, gv⟩ := hE.top
  obtain ⟨es, cl, gm, gI⟩ := hE.map f b hf hM
  have gvf := gv f hf
  rw [hM] at gvf
  refine n_then ?_
  refine c_region (by kernel_rfl) ?_
  refine st_q (ok_move (v := .slice _ _ _) rfl ⟨rfl, rfl, rfl⟩) ?_
  refine st_q (ok_move (v := .int _ _) rfl ⟨rfl, rfl, rfl⟩) ?_
  refine st_q (ok_indexAddr (sl rfl) (ty rfl) rfl rfl (by omega) (by omega) (off := f) (by omega) ⟨rfl, rfl, rfl⟩) ?_
  refine st_q (ok_load (ty rfl) rfl (hS.own _ _ gt) gvf ⟨rfl, rfl, rfl⟩) ?_
  refine st_q (ok_move (v := .int _ _) rfl ⟨rfl, rfl, rfl⟩) ?_
  refine st0 (ok_mapUpdate map65 int3 rfl rfl rfl (hS.own _ _ gm) gI (fun es' cl' hI' => o_nil ?_))
  refine n_leave (leave_none rfl ⟨rfl, _, M1, hS.set gm (.map es' cl'), ?_⟩)
  have hne : be ≠ b := (ne_of_obj gm gt (by intro q; cases q)).symm
  refine ⟨⟨ms, (hset_ne _ _ hne).trans gt, gn, gv⟩, fun i hi e => ?_, fun i b' hi e => ?_, hE.inj⟩
  · by_cases e' : i = f
    · subst e'; rw [hM] at e; cases e
    · simp only [e', if_false]; exact hE.nil i hi e
  · by_cases e' : i = f
    · subst e'
      rw [hM] at e; cases e
      simp only [if_true]
      exact ⟨es', cl', hset_same _ _ _, hI'⟩
    · obtain ⟨es2, cl2, h3, h4⟩ := hE.map i b' hi e
      simp only [e', if_false]
      refine ⟨es2, cl2, (hset_ne _ _ (fun q => e' ?_)).trans h3, h4⟩
      subst q
      exact hE.inj _ _ _ hi hf e hM
end

theorem nodup_of_map {α β : Type} {f : α → β} {l : List α} (h : (l.map f).Nodup) : l.Nodup :=
  List.Pairwise.of_map f (fun _ _ hn e => hn (by rw [e])) h
def unint : Value → Nat
  | .int _ x => x.toNat
  | _ => 0
theorem unint_ints (l : List Nat) : (ints l).map unint = l := by
  simp only [ints, List.map_map]
  conv => rhs; rw [← List.map_id l]
  congr 1
theorem perm_of_all {es : Array MapEntry} {dn : List MapEntry} {seen : Array Nat} {xs ys : List Nat} (hseen : seen.toList = dn.map (·.born)) (hsub : ∀ e ∈ dn, e ∈ es.toList) (hdn : (dn.map (·.born)).Nodup) (hes : (es.toList.map (·.born)).Nodup) (hk : es.toList.map (·.key) = ints xs) (hy : dn.map (·.key) = ints ys) (h0 : (leftOf es seen).size = 0) : ys.Perm xs := by
  have hall : ∀ e ∈ es.toList, e ∈ dn := by
    intro e he
    have hmem : e.born ∈ seen.toList := by
      apply Classical.byContradiction
      intro hn
      have : e ∈ (leftOf es seen).toList := by
        simp only [leftOf, Array.toList_filter, List.mem_filter]
        refine ⟨he, ?_⟩
        simpa using hn
      have h1 : leftOf es seen = #[] := Array.eq_empty_of_size_eq_zero h0
      rw [h1] at this; cases this
    rw [hseen] at hmem
    obtain ⟨d, hd, hb⟩ := List.mem_map.1 hmem
    have h1 := find_born e es.toList hes he
    have h2 := find_born d es.toList hes (hsub d hd)
    rw [hb] at h2
    rw [h1] at h2; cases h2; exact hd
  have hp : dn.Perm es.toList := (List.perm_ext_iff_of_nodup (nodup_of_map hdn) (nodup_of_map hes)).2 (fun a => ⟨hsub a, hall a⟩)
  have h2 := (hp.map (·.key)).map unint
  rw [hk, hy, unint_ints, unint_ints] at h2
  exact h2

section
variable {h X Y : Hp} {N be n c l bb : Nat} {M : Nat → Option Nat} {R : Nat → List Nat}

theorem all_ok {v : Value} (h1 : ∃ a b d, v = .slice a b d) :
    CallsX Ybaz.prog w0 10 #[v] h N (fun u h' N' => u = .func (.func 20) #[] #[.pointer (some ⟨N, 0, none⟩)] ∧ h' = hset h N (.cells #[v] 31 (0, 0)) ∧ N' = N + 1 ∧ ∀ b, N ≤ b → h b = none) := by
  obtain ⟨a, b, d, rfl⟩ := h1
  refine calls_of Ybaz.func10 rfl Ybaz.ntmps10 (Nat.le_of_ble_eq_true rfl) ?_
  refine c_seq ?_
  refine c_region (by kernel_rfl) ?_
  refine st (ok_box (v := .slice _ _ _) rfl rfl (fun hN1 => ?_))
  refine st_q (ok_assign (v := .nilFunc) rfl ⟨rfl, rfl, rfl⟩) ?_
  refine o_nil ?_
  refine n_then (c_seq ?_)
  refine c_region (by kernel_rfl) ?_
  refine st_q (ok_makeFunc rfl rfl ⟨rfl, rfl, rfl⟩) ?_
  refine st_q (ok_assign (v := .func _ _ _) rfl ⟨rfl, rfl, rfl⟩) ?_
  refine o_nil ?_
  refine n_then (c_ret ?_)
  exact r_leave (leave_tmp rfl rfl ⟨rfl, rfl, rfl, hN1⟩)

/-- edgeSet.all's iterator: each edge once, in some order. -/
theorem allIter_ok {J : (Nat → List Nat) → Hp → Hp → Nat → Prop} {Jx : Hp → Nat → Prop} (hE : ES Y be n M R) (hbb : Y bb = some (.cells #[.slice (some ⟨be, 0, none⟩) n c] 31 (0, 0))) (hn : n ≤ 1000)
    (j1 : ∀ S X h N, J S X h N → Ext X h) (jnew : ∀ S X h N N' b o, J S X h N → h b = none → J S (hset X b o) (hset h b o) N') (jset : ∀ S X h N b o o', J S X h N → X b = some o' → Y b = none → J S (hset X b o) (hset h b o) N)
    (hY : ∀ S X h N f t, J S X h N → f < n → t ∈ R f → (S f).length < (R f).length → YieldsTo Ybaz.prog w0 l [.agg #[.int .i64 (f : Int), .int .i64 (t : Int)]] h N (fun b h' N' => (b = true ∧ J (ap S f t) X h' N') ∨ (b = false ∧ Jx h' N')))
    (h0 : J (fun _ => []) X h N) (hX : Ext Y X) :
    CallsX Ybaz.prog w0 20 #[.func (.yield l) #[] #[], .pointer (some ⟨bb, 0, none⟩)] h N (fun _ h' N' => (∃ S X', (∀ i, i < n → (S i).Perm (R i)) ∧ J S X' h' N') ∨ Jx h' N') := by
  refine calls_of Ybaz.func20 rfl Ybaz.ntmps20 (Nat.le_of_ble_eq_true rfl) ?_
  obtain ⟨ms, gt, gn, gv⟩ := hE.top
  have hXh := j1 _ _ _ _ h0
  refine c_seq ?_
  refine c_region (by kernel_rfl) ?_
  refine st_q (ok_load (ty rfl) rfl (hXh _ _ (hX _ _ hbb)) (by rfl) ⟨rfl, rfl, rfl⟩) ?_
  refine st_q (ok_len (sl rfl) rfl ⟨rfl, rfl, rfl⟩) ?_
  refine st_q (ok_move (v := .int _ _) rfl ⟨rfl, rfl, rfl⟩) ?_
  refine o_nil ?_
  refine n_then ?_
  refine c_block ?_
  refine c_loop (fun k E h' N' D => D = [] ∧ k ≤ n ∧ Fr E [(0, .func (.yield l) #[] #[]), (1, .pointer (some ⟨bb, 0, none⟩)), (6, .slice (some ⟨be, 0, none⟩) n c), (7, .int .i64 (n : Int)), (8, .int .i64 ((n - k : Nat) : Int))] ∧ ∃ S X, Ext Y X ∧ J S X h' N' ∧ (∀ i, i < n - k → (S i).Perm (R i)) ∧ ∀ i, n - k ≤ i → S i = []) (k := n) ⟨rfl, Nat.le_refl _, ⟨rfl, rfl, rfl, rfl, by simp [upd], trivial⟩, _, X, hX, h0, fun i hi => by omega, fun _ _ => rfl⟩ ?_
  clear h0 hX hXh
  rintro k E h1 N1 D ⟨rfl, hk, hEr, S, X1, hX, hJ, hp, hz⟩
  obtain ⟨E0, rfl⟩ := hEr.ex
  have hXh := j1 _ _ _ _ hJ
  refine c_seq ?_
  refine c_region (by kernel_rfl) ?_
  refine st_q (ok_lss rfl rfl ⟨rfl, rfl, rfl⟩) ?_
  refine o_nil ?_
  refine n_then ?_
  refine c_seq ?_
  refine c_cond_prop rfl (fun hc => ?_) (fun hc => ?_)
  · skip
    generalize hi : n - k = i at *
    have hin : i < n := by omega
    refine c_skip ?_
    refine n_then ?_
    refine c_seq ?_
    refine c_block ?_
    refine c_seq ?_
    refine c_region (by kernel_rfl) ?_
    refine st_q (ok_move (v := .int _ _) rfl ⟨rfl, rfl, rfl⟩) ?_
    refine st_q (ok_indexAddr (sl rfl) (ty rfl) rfl rfl (by omega) (by omega) (off := i) (by omega) ⟨rfl, rfl, rfl⟩) ?_
    refine st_q (ok_load (ty rfl) rfl (hXh _ _ (hX _ _ gt)) (gv i hin) ⟨rfl, rfl, rfl⟩) ?_
    refine st_q (ok_assign (v := .int _ _) rfl ⟨rfl, rfl, rfl⟩) ?_
    refine st_q (ok_assign (v := .map _) rfl ⟨rfl, rfl, rfl⟩) ?_
    refine o_nil ?_
    refine n_then ?_
    refine c_seq ?_
    cases hM : M i with
    | none =>
      refine c_region (by kernel_rfl) ?_
      refine st_q (ok_move (v := .map _) rfl ⟨rfl, rfl, rfl⟩) ?_
      refine st (ok_range_nil map65 rfl (fun hN14 => o_nil ?_))
      refine n_then ?_
      have hJ := jnew _ _ _ _ (N1 + 1) N1 (.mapIter none 0 #[] 0) hJ (hN14 _ (Nat.le_refl _))
      refine c_block ?_
      refine c_loop1 ?_
      refine c_seq ?_
      refine c_region (by kernel_rfl) ?_
      refine st (ok_next_nil rfl (hset_same _ _ _) ?_)
      refine st_q (ok_extract rfl rfl ⟨rfl, rfl, rfl⟩) ?_
      refine o_nil ?_
      refine n_then ?_
      refine c_seq ?_
      refine c_cond_false rfl ?_
      refine c_exit ?_
      refine x_then (x_then (x_block (n_block (n_then ?_))))
      refine c_region (by kernel_rfl) ?_
      refine st_q (ok_add rfl rfl (by omega) (by omega) ⟨rfl, rfl, rfl⟩) ?_
      refine st_q (ok_move (v := .int _ _) rfl ⟨rfl, rfl, rfl⟩) ?_
      refine o_nil ?_
      refine n_then ⟨k - 1, by omega, rfl, by omega, ⟨rfl, rfl, rfl, rfl, ?_, trivial⟩, S, _, hX.trans ((Ext.refl X1).fresh (hXh.back (hN14 _ (Nat.le_refl _))) _), hJ, ?_, ?_⟩
      · show Value.int .i64 ((i : Int) + 1) = _
        congr 1; omega
      · intro a ha
        by_cases e : a = i
        · subst e; rw [hz a (Nat.le_refl _), hE.nil a hin hM]
        · exact hp a (by omega)
      · intro a ha; exact hz a (by omega)
    | some b =>
      obtain ⟨es, cl, gm, gI⟩ := hE.map i b hin hM
      refine c_region (by kernel_rfl) ?_
      refine st_q (ok_move (v := .map _) rfl ⟨rfl, rfl, rfl⟩) ?_
      refine st (ok_range_map map65 rfl (hXh _ _ (hX _ _ gm)) (fun hN14 => o_nil ?_))
      refine n_then ?_
      have hJ := jnew _ _ _ _ (N1 + 1) N1 (.mapIter (some b) cl #[] cl) hJ (hN14 _ (Nat.le_refl _))
      have hYX : Ext Y (hset X1 N1 (.mapIter (some b) cl #[] cl)) := hX.trans ((Ext.refl X1).fresh (hXh.back (hN14 _ (Nat.le_refl _))) _)
      have hYN : Y N1 = none := hX.back (hXh.back (hN14 _ (Nat.le_refl _)))
      refine c_block ?_
      refine c_loop (fun q E h' N' D => D = [] ∧ Fr E [(0, .func (.yield l) #[] #[]), (1, .pointer (some ⟨bb, 0, none⟩)), (3, .int .i64 (i : Int)), (6, .slice (some ⟨be, 0, none⟩) n c), (7, .int .i64 (n : Int)), (8, .int .i64 (i : Int)), (14, .pointer (some ⟨N1, 0, none⟩))] ∧ ∃ S' X' seen dn, Ext Y X' ∧ J S' X' h' N' ∧ X' N1 = some (.mapIter (some b) cl seen cl) ∧ seen.toList = dn.map (·.born) ∧ (∀ e ∈ dn, e ∈ es.toList) ∧ (dn.map (·.born)).Nodup ∧ dn.map (·.key) = ints (S' i) ∧ (∀ a, a ≠ i → S' a = S a) ∧ q = es.size - dn.length) (k := es.size - 0)
        ⟨rfl, ⟨rfl, rfl, rfl, rfl, rfl, rfl, rfl, trivial⟩, S, _, #[], [], hYX, hJ, hset_same _ _ _, rfl, by simp, by simp, by rw [hz i (Nat.le_refl _)]; rfl, fun _ _ => rfl, rfl⟩ ?_
      clear hJ hYX hX hXh
      rintro q E h2 N2 D ⟨rfl, hEr, S', X', seen, dn, hX, hJ, hit, hseen, hsub, hnd, hkey, hoth, rfl⟩
      obtain ⟨E1, rfl⟩ := hEr.ex
      have hXh := j1 _ _ _ _ hJ
      refine c_seq ?_
      refine c_region (by kernel_rfl) ?_
      refine st (ok_next rfl (hXh _ _ hit) (hXh _ _ (hX _ _ gm)) gI.lt (Nat.le_refl _) (fun hl0 => ?_) (fun e he => ?_))
      · skip
        refine st_q (ok_extract rfl rfl ⟨rfl, rfl, rfl⟩) ?_
        refine o_nil ?_
        refine n_then ?_
        refine c_seq ?_
        refine c_cond_false rfl ?_
        refine c_exit ?_
        refine x_then (x_then (x_block (n_block (n_then ?_))))
        refine c_region (by kernel_rfl) ?_
        refine st_q (ok_add rfl rfl (by omega) (by omega) ⟨rfl, rfl, rfl⟩) ?_
        refine st_q (ok_move (v := .int _ _) rfl ⟨rfl, rfl, rfl⟩) ?_
        refine o_nil ?_
        refine n_then ⟨k - 1, by omega, rfl, by omega, ⟨rfl, rfl, rfl, rfl, ?_, trivial⟩, S', X', hX, hJ, ?_, ?_⟩
        · show Value.int .i64 ((i : Int) + 1) = _
          congr 1; omega
        · intro a ha
          by_cases e : a = i
          · subst e; exact perm_of_all hseen hsub hnd gI.bnd gI.keys hkey hl0
          · rw [hoth a e]; exact hp a (by omega)
        · intro a ha; rw [hoth a (by omega)]; exact hz a (by omega)
      · have hes : e ∈ es.toList := by simp [leftOf] at he ⊢; exact he.1
        have hns : e.born ∉ seen.toList := by simp [leftOf] at he; simpa using he.2
        obtain ⟨t, ht, hek⟩ : ∃ t, t ∈ R i ∧ e.key = .int .i64 (t : Int) := by
          have : e.key ∈ ints (R i) := by rw [← gI.keys]; exact List.mem_map.2 ⟨e, hes, rfl⟩
          obtain ⟨t, h1, h2⟩ := List.mem_map.1 this
          exact ⟨t, h1, h2.symm⟩
        have hlen : dn.length < es.size := by
          have h1 : (dn ++ [e]).length ≤ es.toList.length := by
            refine List.Nodup.length_le_of_subset (l₁ := dn ++ [e]) ?_ ?_
            · rw [List.nodup_append]
              refine ⟨nodup_of_map hnd, by simp, ?_⟩
              intro a ha c hc
              simp at hc; subst hc
              intro e2; subst e2
              exact hns (by rw [hseen]; exact List.mem_map.2 ⟨a, ha, rfl⟩)
            · intro a ha
              simp only [List.mem_append, List.mem_singleton] at ha
              rcases ha with ha | rfl
              · exact hsub a ha
              · exact hes
          simp at h1; omega
        have hlen2 : (S' i).length < (R i).length := by
          have h1 := congrArg List.length hkey
          have h2 := congrArg List.length gI.keys
          simp [ints] at h1 h2
          omega
        have hJ := jset _ _ _ _ N1 (.mapIter (some b) cl (seen.push e.born) cl) _ hJ hit hYN
        have hXh := j1 _ _ _ _ hJ
        have hX : Ext Y (hset X' N1 (.mapIter (some b) cl (seen.push e.born) cl)) := hX.fresh hYN _
        refine st_q (ok_extract rfl rfl ⟨rfl, rfl, rfl⟩) ?_
        refine o_nil ?_
        refine n_then ?_
        refine c_seq ?_
        refine c_cond_true rfl ?_
        refine c_skip ?_
        refine n_then ?_
        refine c_block ?_
        refine c_seq ?_
        refine c_region (by kernel_rfl) ?_
        refine st (ok_entry rfl (hset_same _ _ _) (hXh _ _ (hX _ _ gm)) hes gI.bnd ?_)
        refine st_q (v := .int .i64 (t : Int)) (ok_extract rfl (by simp [hek]) ⟨rfl, rfl, rfl⟩) ?_
        refine st_q (ok_assign (v := .int _ _) rfl ⟨rfl, rfl, rfl⟩) ?_
        refine o_nil ?_
        refine n_then ?_
        refine c_seq ?_
        refine c_region (by kernel_rfl) ?_
        refine st_q (ok_move (v := .func _ _ _) rfl ⟨rfl, rfl, rfl⟩) ?_
        refine st_q (ok_move (v := .int _ _) rfl ⟨rfl, rfl, rfl⟩) ?_
        refine st_q (ok_move (v := .int _ _) rfl ⟨rfl, rfl, rfl⟩) ?_
        refine st_q (ok_build rfl (v := .agg #[.int .i64 (i : Int), .int .i64 (t : Int)]) (fun _ => by kernel_rfl) ⟨rfl, rfl, rfl⟩) ?_
        refine st (ok_yield rfl (hY _ _ _ _ i t hJ hin ht hlen2) rfl ?_)
        rintro bb' h3 N3 (⟨rfl, hJ3⟩ | ⟨rfl, hJ3⟩)
        · refine st_q (ok_not rfl ⟨rfl, rfl, rfl⟩) (o_nil ?_)
          refine n_then ?_
          refine c_cond_false rfl ?_
          refine c_skip ?_
          refine n_block (n_then ⟨es.size - (dn ++ [e]).length, by simp; omega, rfl, ⟨rfl, rfl, rfl, rfl, rfl, rfl, rfl, trivial⟩, _, _, seen.push e.born, dn ++ [e], hX, hJ3, hset_same _ _ _, by simp [hseen], ?_, ?_, ?_, ?_, rfl⟩)
          · intro a ha
            simp only [List.mem_append, List.mem_singleton] at ha
            rcases ha with ha | rfl
            · exact hsub a ha
            · exact hes
          · simp only [List.map_append, List.map_cons, List.map_nil, List.nodup_append]
            refine ⟨hnd, by simp, ?_⟩
            intro a ha c hc
            simp at hc; subst hc
            intro e2; subst e2
            exact hns (by rw [hseen]; exact ha)
          · simp only [List.map_append, List.map_cons, List.map_nil, hkey, hek, ap, if_true, ints]
          · intro a ha; simp only [ap, ha, if_false]; exact hoth a ha
        · refine st_q (ok_not rfl ⟨rfl, rfl, rfl⟩) (o_nil ?_)
          refine n_then ?_
          refine c_cond_true rfl ?_
          refine c_ret ?_
          refine r_block (r_then (r_block (r_block (r_then (r_then (r_block ?_))))))
          exact r_leave (leave_none rfl (.inr hJ3))
  · skip
    refine c_exit ?_
    refine x_then (x_then (x_block ?_))
    obtain rfl : k = 0 := by omega
    exact n_leave (leave_none rfl (.inl ⟨S, X1, hp, hJ⟩))
end
end Sx
end Go.Proofs.YbulkcsqkGreat
