import Derived.Test.YbulkcsqkGreatSxCyc2
import Derived.Test.YbulkcsqkGreatSxLib2
import Derived.Test.YbulkcsqkGreatSxPlainA
namespace Go.Proofs.YbulkcsqkGreat
namespace Sx
set_option maxRecDepth 10000
set_option maxHeartbeats 2000000
variable {w0 : World}
section
variable {h m X : Hp} {N : Nat}

/-- What shortestPath does not change. -/
structure SPC (X h : Hp) (b6 b11 bl b13 bv n start : Nat) (ls : Array Value) : Prop where
  ext : Ext h X
  x6 : X b6 = some (.cells #[.int .i64 (start : Int)] 3 (0, 0))
  x11 : X b11 = some (.cells #[.slice (some ⟨bl, 0, none⟩) n n] 41 (0, 0))
  xl : X bl = some (.cells ls 4 (0, 0))
  x13 : X b13 = some (.cells #[.slice (some ⟨bv, 0, none⟩) n n] 34 (0, 0))
theorem SPC.mono {X X' h : Hp} {b6 b11 bl b13 bv n start : Nat} {ls : Array Value} (hc : SPC X h b6 b11 bl b13 bv n start ls) (hx : Ext X X') : SPC X' h b6 b11 bl b13 bv n start ls :=
  ⟨hc.ext.trans hx, hx _ _ hc.x6, hx _ _ hc.x11, hx _ _ hc.xl, hx _ _ hc.x13⟩
/-- The row via. -/
def Via (m : Hp) (bv n : Nat) (vi : Nat → Int) : Prop := ∃ vs, m bv = some (.cells vs 3 (0, 0)) ∧ vs.size = n ∧ ∀ j, j < n → vs[j]? = some (.int .i64 (vi j))
theorem mem_take_succ {l : List Nat} {j x y : Nat} (hx : l[j]? = some x) (hy : y ∈ l.take (j + 1)) : y ∈ l.take j ∨ y = x := by
  rw [List.take_add_one, hx] at hy
  simpa using hy

theorem ints_len (xs : List Nat) : (ints xs).length = xs.length := by simp [ints]
theorem Marks.keep {m m' : Hp} {D : List Deferred} (hM : Marks m D) (hk : ∀ c, m c = some (.deferred (some [])) → m' c = some (.deferred (some []))) : Marks m' D := by
  obtain ⟨L, h1, h2, h3⟩ := hM
  exact ⟨L, h1, h2, fun b hb => hk b (h3 b hb)⟩
theorem Own.nodef {m : Hp} {e : TypeId} {sz c : Nat} {v : Value} {xs : List Value} (ho : Own m e sz v xs) (hc : m c = some (.deferred (some []))) : blk v ≠ some c := by
  intro e
  obtain ⟨cs, h1⟩ := ho.at e
  rw [hc] at h1; cases h1
theorem Own.noty {m : Hp} {e t : TypeId} {sz c : Nat} {v : Value} {xs : List Value} {cs : Array Value} {fz : Nat × Nat} (ho : Own m e sz v xs) (hc : m c = some (.cells cs t fz)) (ht : Nat.beq e t = false) : blk v ≠ some c := by
  intro e
  obtain ⟨cs', h1⟩ := ho.at e
  exact ne_of_ty h1 hc ht rfl
/-- What is left when the marks are taken away. -/
theorem marks_left {h h' h'' : Hp} {v : Value} {xs : List Nat} (hS : Sep m X h') (hX : Ext h X) (ho : Own m 3 1 v (ints xs)) (hh : ∀ c, (∀ o, m c = some o → o ≠ .deferred (some [])) → h'' c = h' c) : ∃ m2, Sep m2 h h'' ∧ Own m2 3 1 v (ints xs) := by
  have hx : Ext h h'' := fun c o hc => by
    have h1 := hX _ _ hc
    have h2 := hS.notm h1
    rw [hh c (fun o ho => by rw [h2] at ho; cases ho)]
    exact hS.oth _ _ h1
  rcases ho with h1 | ⟨b, n, c, cs, h1, h2, h3⟩
  · exact ⟨fun _ => none, ⟨fun _ _ e => (by cases e), hx, fun _ => .inl rfl⟩, .inl h1⟩
  · refine ⟨fun x => if x = b then m b else none, ⟨fun x o e => ?_, hx, fun x => ?_⟩, .inr ⟨b, n, c, cs, h1, by simp [h2], h3⟩⟩
    · by_cases e2 : x = b
      · subst e2
        simp only [if_true] at e
        rw [hh x (fun o ho => by rw [h2] at ho; cases ho; intro e; cases e)]
        exact hS.own _ _ e
      · simp [e2] at e
    · by_cases e2 : x = b
      · subst e2; exact .inr (hX.back (hS.noX h2))
      · exact .inl (by simp [e2])

theorem shortestPath_ok {an : Option Addr} {n nc bs bg bw start : Nat} {V : Nat → Value} {S : Nat → List Nat} {lb : Array Value} {vp : Value} (hg : h bg = some (.cells (gcells an n nc bs) 69 (0, 0))) (hR : Rows h bs n V S) (hSl : ∀ i, i < n → ∀ k, k ∈ S i → k < n) (hSn : ∀ i, i < n → (S i).Nodup)
    (hA : AdjC h lb vp) (hP : Own h 3 1 vp (ints (Pl S n start))) (hs : start < n) (hn : n ≤ 100) (hcy : TC S start start) :
    CallsX Ybaz.prog w0 46 #[.int .i64 (n : Int), .int .i64 (start : Int), .int .i64 (start : Int), .func (.func 45) #[] #[.pointer (some ⟨bg, 0, none⟩), .pointer (some ⟨bw, 0, none⟩)], .func (.func 73) #[] lb] h N
      (fun u h' _ => ∃ m xs, Sep m h h' ∧ Own m 3 1 u (ints xs) ∧ 2 ≤ xs.length ∧ xs.length ≤ 200) := by
  refine calls_of Ybaz.func46 rfl Ybaz.ntmps46 (Nat.le_of_ble_eq_true rfl) ?_
  have hPl := Pl_len S n start
  refine c_seq ?_
  refine c_region (by kernel_rfl) ?_
  refine st (ok_box (v := .int _ _) rfl rfl (fun hN6 => ?_))
  refine st_q (ok_assign (v := .slice _ _ _) rfl ⟨rfl, rfl, rfl⟩) ?_
  refine o_nil ?_
  refine n_then ?_
  refine c_seq ?_
  refine c_region (by kernel_rfl) ?_
  refine st_q (ok_move (v := .int _ _) rfl ⟨rfl, rfl, rfl⟩) ?_
  refine st (ok_makeSlice (sl rfl) (ty rfl) rfl rfl (by omega) (by omega) (by omega) (by omega) (l' := n) (c' := n) (by omega) (by omega) (fun hN23 => ?_))
  refine st (ok_alloc (ty rfl) rfl (fun hN11 => ?_))
  refine st0 (ok_store (ty rfl) rfl (v := .slice _ _ _) rfl rfl (hset_same _ _ _) (Nat.le_of_ble_eq_true rfl) ?_)
  refine o_nil ?_
  refine n_then ?_
  have hS := ((((Sep.start h).newX (hN6 _ (Nat.le_refl _)) (.cells #[.int .i64 (start : Int)] 3 (0, 0))).push hN23 (.cells (madeCells #[.bool false] (n * 1)) 4 (0, 0))).newX (hN11 _ (Nat.le_refl _)) (.cells #[.slice none 0 0] 41 (0, 0))).setX (hset_same _ _ _) (.cells #[.slice (some ⟨N + 1, 0, none⟩) n n] 41 (0, 0))
  refine c_heap (fun h1 _ => ∃ m X, Sep m X h1 ∧ Ext h X ∧ X N = some (.cells #[.int .i64 (start : Int)] 3 (0, 0)) ∧ X (N + 1 + 1) = some (.cells #[.slice (some ⟨N + 1, 0, none⟩) n n] 41 (0, 0)) ∧ m (N + 1) = some (.cells (madeCells #[.bool false] (n * 1)) 4 (0, 0))) ⟨_, _, hS, ?_, ?_, ?_, ?_⟩ ?_
  · rw [hset_hset]
    exact (Ext.push hN6 _).trans ((Ext.refl _).fresh ((hset_ne _ _ (by omega)).trans (hN6 _ (by omega))) _)
  · (repeat rw [hset_ne _ _ (by omega)]); exact hset_same _ _ _
  · exact hset_same _ _ _
  · exact hset_same _ _ _
  clear hS
  rintro h1 N1 ⟨m, X, hS, hX, x6, x11, gl⟩
  refine c_seq ?_
  refine c_seq ?_
  refine c_region (by kernel_rfl) ?_
  refine st_q (ok_move (v := .func _ _ _) rfl ⟨rfl, rfl, rfl⟩) ?_
  refine o_nil ?_
  refine n_then ?_
  refine c_block ?_
  refine c_cut (fun E h' _ D => Fr E [(0, .int .i64 (n : Int)), (2, .int .i64 (start : Int)), (3, .func (.func 45) #[] #[.pointer (some ⟨bg, 0, none⟩), .pointer (some ⟨bw, 0, none⟩)]), (6, .pointer (some ⟨N, 0, none⟩)), (11, .pointer (some ⟨N + 1 + 1, 0, none⟩))] ∧ ∃ m ls, ∃ ld : Nat → Bool, Sep m X h' ∧ Marks m D ∧ m (N + 1) = some (.cells ls 4 (0, 0)) ∧ ls.size = n ∧ (∀ q, q < n → ls[q]? = some (.bool (ld q))) ∧ ∀ x, x ∈ Pl S n start → ld x = true) ?_ ?_
  · skip
    refine c_adj rfl rfl (hA.ext hX) (hP.ext hX) (by omega) hS
      (fun j m => ∃ ls, ∃ ld : Nat → Bool, Marks m [mark N1] ∧ m (N + 1) = some (.cells ls 4 (0, 0)) ∧ ls.size = n ∧ (∀ q, q < n → ls[q]? = some (.bool (ld q))) ∧ ∀ x, x ∈ (Pl S n start).take j → ld x = true) (fun _ _ => False) 12 ?_ ?_ ?_ ?_ ?_
    · intro hm
      exact ⟨_, fun _ => false, (Marks.nil m).cons hm, (hset_ne _ _ (ne_of_none gl hm)).trans gl, made_size, made_get, fun x hx => by simp at hx⟩
    · intro x h' N' r Q' hQ
      refine c_region (by kernel_rfl) ?_
      refine st_q (ok_assign (v := .int _ _) rfl ⟨rfl, rfl, rfl⟩) ?_
      refine o_nil ?_
      exact hQ
    · rintro j x m' h' N' o r hx ⟨ls, ld, hM, g1, g2, g3, g4⟩ hd hS' hXo
      have hxn : x < n := (mem_Pl.1 (List.mem_of_getElem? hx)).1
      refine c_block ?_
      refine c_region (by kernel_rfl) ?_
      refine st_q (ok_load (ty rfl) rfl (hS'.oth _ _ (hXo _ _ x11)) rfl ⟨rfl, rfl, rfl⟩) ?_
      refine st_q (ok_move (v := .int _ _) rfl ⟨rfl, rfl, rfl⟩) ?_
      refine st_q (ok_indexAddr (sl rfl) (ty rfl) rfl rfl (by omega) (by omega) (off := x) (by omega) ⟨rfl, rfl, rfl⟩) ?_
      refine st0 (ok_store (ty rfl) rfl (v := .bool _) rfl rfl (hS'.own _ _ g1) (by omega) ?_)
      refine o_nil ?_
      refine n_block ⟨_, hS'.set g1 _, (hset_ne _ _ (ne_of_obj hd g1 (by intro e; cases e))).trans hd, _, (fun q => if q = x then true else ld q), hM.set g1, hset_same _ _ _, by rw [setA_size]; exact g2, fun q hq => ?_, fun y hy => ?_⟩
      · by_cases e : q = x
        · subst e; rw [setA_same _ _ (by omega)]; simp
        · rw [setA_ne _ _ (fun e2 => e e2.symm), g3 q hq]; simp [e]
      · by_cases e : y = x
        · simp [e]
        · simp only [e, if_false]
          rcases mem_take_succ hx hy with h2 | h2
          · exact g4 y h2
          · exact absurd h2 e
    · rintro m' h' N' ⟨ls, ld, hM, g1, g2, g3, g4⟩ hS' hd
      exact n_then ⟨⟨rfl, rfl, rfl, rfl, rfl, trivial⟩, m', ls, ld, hS', hM, g1, g2, g3, fun x hx => g4 x (by rw [List.take_length]; exact hx)⟩
    · intro id m' h' N' hf; exact hf.elim
  clear hS gl
  rintro E h1 N1 D ⟨hEr, m, ls, ld, hS, hM, gl, g2, hld, hlead⟩
  obtain ⟨E1, rfl⟩ := hEr.ex
  have hleads : ∀ x, x < n → start ∈ S x → ld x = true := fun x hx hsx => hlead x (mem_Pl.2 ⟨hx, hsx⟩)
  clear hlead
  refine n_block (n_then ?_)
  refine c_seq ?_
  have hS0 := hS
  refine c_region (by kernel_rfl) ?_
  refine st (ok_buildSlice (sl rfl) (ty rfl) rfl (vs := #[.int .i64 (-1)]) (by kernel_rfl) (by decide) (by decide) (fun hN29 => ?_))
  refine st_q (ok_move (v := .int _ _) rfl ⟨rfl, rfl, rfl⟩) ?_
  refine st (ok_call rfl ent75 (repeat_ok (i := -1) (hset_same _ _ _) rfl (by omega) (by omega)) rfl ?_)
  rintro _ h2 N2 ⟨cv, rfl, rfl, rfl, hcv, hcv2, hfv⟩
  refine st (ok_alloc (ty rfl) rfl (fun hN13 => ?_))
  refine st0 (ok_store (ty rfl) rfl (v := .slice _ _ _) rfl rfl (hset_same _ _ _) (Nat.le_of_ble_eq_true rfl) ?_)
  refine o_nil ?_
  refine n_then ?_
  have hS := (((hS.fresh (hN29 _ (Nat.le_refl _)) (.cells #[.int .i64 (-1)] 3 (0, 0))).push hfv (.cells cv 3 (0, 0))).newX (hN13 _ (Nat.le_refl _)) (.cells #[.slice none 0 0] 34 (0, 0))).setX (hset_same _ _ _) (.cells #[.slice (some ⟨N1 + 1, 0, none⟩) n n] 34 (0, 0))
  rw [hset_hset X] at hS
  have mV : m (N1 + 1) = none := hS0.own.back (hN29 _ (by omega))
  have xB : X (N1 + 1 + 1) = none := hS0.oth.back (hN29 _ (by omega))
  have xL := hS0.noX gl
  have n1 : N + 1 ≠ N1 + 1 := ne_of_none gl mV
  have n2 : N1 + 1 + 1 ≠ N + 1 := fun e => by
    have := hS0.own.back (hN29 (N1 + 1 + 1) (by omega))
    rw [e, gl] at this; cases this
  have gl2 : (hset m (N1 + 1) (.cells cv 3 (0, 0))) (N + 1) = some (.cells ls 4 (0, 0)) := (hset_ne _ _ n1).trans gl
  have hXX : Ext X (hset (hset X (N1 + 1 + 1) (.cells #[.slice (some ⟨N1 + 1, 0, none⟩) n n] 34 (0, 0))) (N + 1) (.cells ls 4 (0, 0))) := ((Ext.refl X).fresh xB _).fresh xL _
  refine c_heap (fun h2 _ => ∃ m X, Sep m X h2 ∧ Marks m D ∧ SPC X h N (N + 1 + 1) (N + 1) (N1 + 1 + 1) (N1 + 1) n start ls ∧ Via m (N1 + 1) n (fun _ => -1)) ⟨_, _, hS.give gl2, (hM.ext ((Ext.refl m).fresh mV _)).del gl2, ⟨hX.trans hXX, hXX _ _ x6, hXX _ _ x11, hset_same _ _ _, (hset_ne _ _ n2).trans (hset_same _ _ _)⟩, ⟨cv, (del_ne _ n1.symm).trans (hset_same _ _ _), hcv, hcv2⟩⟩ ?_
  clear hS hS0 hM gl gl2 hXX x6 x11 xL xB mV hX
  generalize N1 + 1 + 1 = b13 at *
  generalize N1 + 1 = bv at *
  generalize N + 1 + 1 = b11 at *
  generalize N + 1 = bl at *
  rintro h2 N2 ⟨m, X, hS, hM, hC, hV⟩
  refine c_seq ?_
  refine c_seq ?_
  refine c_region (by kernel_rfl) ?_
  refine st_q (ok_load (ty rfl) rfl (hS.oth _ _ hC.x6) rfl ⟨rfl, rfl, rfl⟩) ?_
  refine st (ok_buildSlice (sl rfl) (ty rfl) rfl (vs := #[.int .i64 (start : Int)]) (by kernel_rfl) (by decide) (by decide) (fun hN33 => ?_))
  refine st_q (ok_assign (v := .slice _ _ _) rfl ⟨rfl, rfl, rfl⟩) ?_
  refine o_nil ?_
  refine n_then ?_
  have hS1 := hS.newX (hN33 _ (Nat.le_refl _)) (.cells #[.int .i64 (start : Int)] 3 (0, 0))
  have hX1 : Ext X (hset X N2 (.cells #[.int .i64 (start : Int)] 3 (0, 0))) := (Ext.refl X).fresh (hS.oth.back (hN33 _ (Nat.le_refl _))) _
  refine c_block ?_
  refine c_loop (fun k E h' _ D => ∃ m X done level vi ao cap, Sep m X h' ∧ Marks m D ∧ SPC X h N b11 bl b13 bv n start ls ∧ Via m bv n vi ∧ Own X 3 1 (.slice ao level.length cap) (ints level) ∧ level ≠ [] ∧ BInv n start (done ++ level) vi ∧ (∀ x, x ∈ done → ∀ y, y ∈ S x → y ∈ done ++ level) ∧ (∀ x, x ∈ done → ld x = false) ∧ k = n - done.length ∧
      Fr E [(2, .int .i64 (start : Int)), (3, .func (.func 45) #[] #[.pointer (some ⟨bg, 0, none⟩), .pointer (some ⟨bw, 0, none⟩)]), (6, .pointer (some ⟨N, 0, none⟩)), (11, .pointer (some ⟨b11, 0, none⟩)), (13, .pointer (some ⟨b13, 0, none⟩)), (14, .slice ao level.length cap)]) (k := n)
    ⟨m, _, [], [start], _, _, _, hS1, hM, hC.mono hX1, hV, .inr ⟨N2, 1, 1, _, rfl, hset_same _ _ _, rfl, Nat.le_refl _, rfl, rfl⟩, by simp, BInv.first hs (fun _ _ => rfl), by simp, by simp, by simp, rfl, rfl, rfl, rfl, rfl, rfl, trivial⟩ ?_
  clear hS hM hC hV hS1 hX1
  rintro k E h3 N3 D ⟨m, X, done, level, vi, ao, cap, hS, hM, hC, hV, hO, hne, hB, hcl, hno, hk, hE⟩
  obtain ⟨E2, rfl⟩ := hE.ex
  obtain ⟨ao', cap', e', hcap, hrow⟩ := hO.row
  cases e'
  have hlv : 0 < level.length := List.length_pos_iff.2 hne
  have hLn := hB.len
  rw [List.length_append] at hLn
  have hlvn : ∀ x, x ∈ level → x < n := fun x hx => hB.lt x (List.mem_append_right _ hx)
  refine c_seq ?_
  refine c_seq ?_
  refine c_region (by kernel_rfl) ?_
  refine st_q (ok_move (v := .slice _ _ _) rfl ⟨rfl, rfl, rfl⟩) ?_
  refine st_q (ok_len (sl rfl) rfl ⟨rfl, rfl, rfl⟩) ?_
  refine st_q (ok_gtr_t rfl rfl ((by omega)) ⟨rfl, rfl, rfl⟩) ?_
  refine o_nil ?_
  refine n_then ?_
  refine c_cond_true rfl ?_
  refine c_skip ?_
  refine n_then ?_
  refine c_block ?_
  refine c_seq ?_
  refine c_seq ?_
  refine c_region (by kernel_rfl) ?_
  refine st_q (ok_move (v := .slice _ _ _) rfl ⟨rfl, rfl, rfl⟩) ?_
  refine st_q (ok_makeFunc rfl rfl ⟨rfl, rfl, rfl⟩) ?_
  refine st (ok_call rfl ent76 (indexFunc_ok (hS.oth _ _ hC.x11) (hS.oth _ _ hC.xl) hld (hO.ext hS.oth) hlvn (by omega)) rfl ?_)
  rintro _ h4 N4 ⟨hcase, rfl, rfl⟩
  rcases hcase with ⟨q, x0, rfl, hq, hx0⟩ | ⟨rfl, hnone⟩
  · skip
    refine st_q (ok_assign (v := .int _ _) rfl ⟨rfl, rfl, rfl⟩) ?_
    refine o_nil ?_
    refine n_then ?_
    refine c_seq ?_
    refine c_region (by kernel_rfl) ?_
    refine st_q (ok_move (v := .int _ _) rfl ⟨rfl, rfl, rfl⟩) ?_
    refine st_q (ok_geq_t rfl rfl ((by omega)) ⟨rfl, rfl, rfl⟩) ?_
    refine o_nil ?_
    refine n_then ?_
    refine c_cond_true rfl ?_
    obtain ⟨vs, v1, v2, v3⟩ := hV
    obtain ⟨bL, cL, rfl, gL, gq⟩ := hrow q x0 hq
    have hqL : q < level.length := (List.getElem?_eq_some_iff.1 hq).1
    have hx0L : x0 ∈ done ++ level := List.mem_append_right _ (List.mem_of_getElem? hq)
    have hXv : Ext X (hset X bv (.cells vs 3 (0, 0))) := (Ext.refl X).fresh (hS.noX v1) _
    have hSg := hS.give v1
    have hMg := hM.del v1
    have hXb := hset_same X bv (.cells vs 3 (0, 0))
    have hC2 := hC.mono hXv
    have gL2 := hXv _ _ gL
    generalize hset X bv (.cells vs 3 (0, 0)) = X2 at *
    generalize del m bv = m2 at *
    clear hS hM hXv hC v1
    refine c_seq ?_
    refine c_region (by kernel_rfl) ?_
    refine st_q (ok_move (v := .int _ _) rfl ⟨rfl, rfl, rfl⟩) ?_
    refine st (ok_buildSlice (sl rfl) (ty rfl) rfl (vs := #[.int .i64 (start : Int)]) (by kernel_rfl) (by decide) (by decide) (fun hN43 => ?_))
    refine st_q (ok_assign (v := .slice _ _ _) rfl ⟨rfl, rfl, rfl⟩) ?_
    refine o_nil ?_
    refine n_then ?_
    have hm3 : m2 N4 = none := hSg.own.back (hN43 _ (Nat.le_refl _))
    have hS3 := hSg.push hN43 (.cells #[.int .i64 (start : Int)] 3 (0, 0))
    refine c_seq ?_
    refine c_seq ?_
    refine c_region (by kernel_rfl) ?_
    refine st_q (ok_move (v := .slice _ _ _) rfl ⟨rfl, rfl, rfl⟩) ?_
    refine st_q (ok_move (v := .int _ _) rfl ⟨rfl, rfl, rfl⟩) ?_
    refine st_q (ok_indexAddr (sl rfl) (ty rfl) rfl rfl (by omega) (by omega) (off := q) (by omega) ⟨rfl, rfl, rfl⟩) ?_
    refine st_q (ok_load (ty rfl) rfl (hS3.oth _ _ gL2) gq ⟨rfl, rfl, rfl⟩) ?_
    refine st_q (ok_assign (v := .int _ _) rfl ⟨rfl, rfl, rfl⟩) ?_
    refine o_nil ?_
    refine n_then ?_
    have hix := List.idxOf_lt_length_iff.2 hx0L
    rw [List.length_append] at hix
    refine c_block ?_
    refine c_loop (fun k E h' _ D' => D' = D ∧ ∃ m path ao cap, ∃ cur : Nat, Sep m X2 h' ∧ Marks m D ∧ Own m 3 1 (.slice ao path.length cap) (ints path) ∧ path ≠ [] ∧ cur ∈ done ++ level ∧ k = (done ++ level).idxOf cur ∧ path.length + k ≤ n + 1 ∧ Fr E [(6, .pointer (some ⟨N, 0, none⟩)), (13, .pointer (some ⟨b13, 0, none⟩)), (16, .slice ao path.length cap), (17, .int .i64 (cur : Int))]) (k := (done ++ level).idxOf x0)
      ⟨rfl, _, [start], _, _, x0, hS3, hMg.ext ((Ext.refl m2).fresh hm3 _), .inr ⟨N4, 1, 1, _, rfl, hset_same _ _ _, rfl, Nat.le_refl _, rfl, rfl⟩, by simp, hx0L, rfl, by simp; omega, rfl, rfl, rfl, rfl, trivial⟩ ?_
    clear hS3 hSg hMg hm3
    rintro k2 E h5 N5 D' ⟨rfl, m, path, ao2, cap2, cur, hS, hM, hO2, hpne, hcur, hk2, hpl, hE⟩
    obtain ⟨E3, rfl⟩ := hE.ex
    have hcn : cur < n := hB.lt cur hcur
    have hpil := ints_len path
    refine c_seq ?_
    refine c_seq ?_
    refine c_region (by kernel_rfl) ?_
    refine st_q (ok_move (v := .int _ _) rfl ⟨rfl, rfl, rfl⟩) ?_
    refine st_q (ok_load (ty rfl) rfl (hS.oth _ _ hC2.x6) rfl ⟨rfl, rfl, rfl⟩) ?_
    refine st_q (ok_neq rfl rfl ⟨rfl, rfl, rfl⟩) ?_
    refine o_nil ?_
    refine n_then ?_
    refine c_cond_prop rfl (fun hc => ?_) (fun hc => ?_)
    · skip
      obtain ⟨p, hp1, hp2, hp3⟩ := hB.back cur hcur (fun e => hc (by rw [e]))
      refine c_skip ?_
      refine n_then ?_
      refine c_seq ?_
      refine c_block ?_
      refine c_region (by kernel_rfl) ?_
      refine st_q (ok_move (v := .slice _ _ _) rfl ⟨rfl, rfl, rfl⟩) ?_
      refine st_q (ok_move (v := .int _ _) rfl ⟨rfl, rfl, rfl⟩) ?_
      refine st (ok_buildSlice (sl rfl) (ty rfl) rfl (vs := #[.int .i64 (cur : Int)]) (by kernel_rfl) (by decide) (by decide) (fun hN57 => ?_))
      refine st (ok_append rfl (sl rfl) (ty rfl) rfl rfl (hO2.ext (hS.own.trans (Ext.push hN57 _))) rfl (hset_same _ _ _) (Nat.le_of_ble_eq_true rfl) (by simp [isOne]) (by decide) (by decide) (by omega) (by omega) (fun b' n' c' cs' N6 hcase hcz hnc hln htk hnq => ?_))
      refine st_q (ok_assign (v := .slice _ _ _) rfl ⟨rfl, rfl, rfl⟩) ?_
      refine o_nil ?_
      have hS5 := hS.fresh (hN57 _ (Nat.le_refl _)) (.cells #[.int .i64 (cur : Int)] 3 (0, 0))
      obtain ⟨hS6, hO6, hk6⟩ := own_grow (ys := ints path ++ [Value.int .i64 (cur : Int)]) hS5 hO2 hcase hcz hnc hln htk
      obtain rfl : n' = (path ++ [cur]).length := by simp at hnq ⊢; omega
      refine n_block (n_then ?_)
      refine c_region (by kernel_rfl) ?_
      refine st_q (ok_load (ty rfl) rfl (hS6.oth _ _ hC2.x13) rfl ⟨rfl, rfl, rfl⟩) ?_
      refine st_q (ok_move (v := .int _ _) rfl ⟨rfl, rfl, rfl⟩) ?_
      refine st_q (ok_indexAddr (sl rfl) (ty rfl) rfl rfl (by omega) (by omega) (off := cur) (by omega) ⟨rfl, rfl, rfl⟩) ?_
      refine st_q (ok_load (ty rfl) rfl (hS6.oth _ _ hXb) (v3 cur hcn) ⟨rfl, rfl, rfl⟩) ?_
      refine st_q (ok_assign (v := .int _ _) rfl ⟨rfl, rfl, rfl⟩) ?_
      refine o_nil ?_
      refine n_then ⟨_, ?_, rfl, _, path ++ [cur], _, _, p, hS6, hM.keep (fun c hc => hk6 c _ hc (hO2.nodef hc)), by rw [ints_append]; exact hO6, by simp, hp2, rfl, ?_, rfl, rfl, rfl, ?_, trivial⟩
      · omega
      · simp; omega
      · show Value.int .i64 (vi cur) = _
        rw [hp1]
    · skip
      refine c_exit ?_
      refine x_then (x_then (x_block (n_then ?_)))
      refine c_seq ?_
      refine c_region (by kernel_rfl) ?_
      refine st_q (ok_move (v := .slice _ _ _) rfl ⟨rfl, rfl, rfl⟩) ?_
      refine st_q (ok_load (ty rfl) rfl (hS.oth _ _ hC2.x6) rfl ⟨rfl, rfl, rfl⟩) ?_
      refine st (ok_buildSlice (sl rfl) (ty rfl) rfl (vs := #[.int .i64 (start : Int)]) (by kernel_rfl) (by decide) (by decide) (fun hN61 => ?_))
      refine st (ok_append rfl (sl rfl) (ty rfl) rfl rfl (hO2.ext (hS.own.trans (Ext.push hN61 _))) rfl (hset_same _ _ _) (Nat.le_of_ble_eq_true rfl) (by simp [isOne]) (by decide) (by decide) (by omega) (by omega) (fun b' n' c' cs' N6 hcase hcz hnc hln htk hnq => ?_))
      refine st_q (ok_assign (v := .slice _ _ _) rfl ⟨rfl, rfl, rfl⟩) ?_
      refine o_nil ?_
      have hS5 := hS.fresh (hN61 _ (Nat.le_refl _)) (.cells #[.int .i64 (start : Int)] 3 (0, 0))
      obtain ⟨hS6, hO6, hk6⟩ := own_grow (ys := ints path ++ [Value.int .i64 (start : Int)]) hS5 hO2 hcase hcz hnc hln htk
      have hM6 := hM.keep (fun c hc => hk6 c _ hc (hO2.nodef hc))
      have hO7 := hO6
      rw [show ints path ++ [Value.int .i64 (start : Int)] = ints (path ++ [start]) from by simp [ints]] at hO7
      have hpp : 0 < path.length := List.length_pos_iff.2 hpne
      have hpl2 : (path ++ [start]).length = path.length + 1 := by simp
      refine n_then ?_
      refine c_seq ?_
      refine c_region (by kernel_rfl) ?_
      refine st_q (ok_move (v := .slice _ _ _) rfl ⟨rfl, rfl, rfl⟩) ?_
      refine st (ok_call rfl ent34 (reverse_ok hS6 hO7 (by omega)) rfl ?_)
      rintro _ h7 N7 ⟨rfl, m7, hS7, hO8, hk7⟩
      refine o_nil ?_
      refine n_then ?_
      refine c_seq ?_
      refine c_region (by kernel_rfl) ?_
      refine st_q (ok_move (v := .slice _ _ _) rfl ⟨rfl, rfl, rfl⟩) ?_
      refine st_q (ok_assign (v := .slice _ _ _) rfl ⟨rfl, rfl, rfl⟩) ?_
      refine o_nil ?_
      refine n_then ?_
      refine c_ret ?_
      refine r_then (r_block (r_then (r_block (r_then ?_))))
      have hM7 := hM6.keep (fun c hc => (hk7 c (hO7.nodef hc)).trans hc)
      refine r_leave (leave_marks rfl rfl _ m7 _ hM7 hS7.own (fun h'' hh => ?_))
      obtain ⟨m8, hS8, hO9⟩ := marks_left hS7 hC2.ext hO8 hh
      exact ⟨m8, _, hS8, hO9, by rw [List.length_reverse]; omega, by rw [List.length_reverse]; omega⟩
  · skip
    refine st_q (ok_assign (v := .int _ _) rfl ⟨rfl, rfl, rfl⟩) ?_
    refine o_nil ?_
    refine n_then ?_
    refine c_seq ?_
    refine c_region (by kernel_rfl) ?_
    refine st_q (ok_move (v := .int _ _) rfl ⟨rfl, rfl, rfl⟩) ?_
    refine st_q (ok_geq_f rfl rfl ((by omega)) ⟨rfl, rfl, rfl⟩) ?_
    refine o_nil ?_
    refine n_then ?_
    refine c_cond_false rfl ?_
    refine c_skip ?_
    refine n_then ?_
    refine c_seq ?_
    refine c_region (by kernel_rfl) ?_
    refine st (ok_alloc (ty rfl) rfl (fun hN18 => ?_))
    refine o_nil ?_
    refine n_then ?_
    refine c_seq ?_
    refine c_seq ?_
    refine c_region (by kernel_rfl) ?_
    refine st_q (ok_move (v := .slice _ _ _) rfl ⟨rfl, rfl, rfl⟩) ?_
    refine st_q (ok_len (sl rfl) rfl ⟨rfl, rfl, rfl⟩) ?_
    refine st_q (ok_move (v := .int _ _) rfl ⟨rfl, rfl, rfl⟩) ?_
    refine o_nil ?_
    refine n_then ?_
    have hmN : m N4 = none := hS.own.back (hN18 _ (Nat.le_refl _))
    have hS1 := hS.push hN18 (.cells #[.slice none 0 0] 34 (0, 0))
    have hX1 : Ext m (hset m N4 (.cells #[.slice none 0 0] 34 (0, 0))) := (Ext.refl m).fresh hmN _
    refine c_block ?_
    refine c_loop (fun k E h' _ D => k ≤ level.length ∧ ∃ m X next vi ai ni ci, Sep m X h' ∧ Marks m D ∧ SPC X h N b11 bl b13 bv n start ls ∧ Via m bv n vi ∧ m N4 = some (.cells #[.slice ai ni ci] 34 (0, 0)) ∧ Own m 3 1 (.slice ai ni ci) (ints next) ∧ blk (.slice ai ni ci) ≠ some bv ∧ Own X 3 1 (.slice ao level.length cap) (ints level) ∧ BInv n start (done ++ level ++ next) vi ∧ (∀ x, x ∈ done ++ level.take (level.length - k) → ∀ y, y ∈ S x → y ∈ done ++ level ++ next) ∧
        Fr E [(2, .int .i64 (start : Int)), (3, .func (.func 45) #[] #[.pointer (some ⟨bg, 0, none⟩), .pointer (some ⟨bw, 0, none⟩)]), (6, .pointer (some ⟨N, 0, none⟩)), (11, .pointer (some ⟨b11, 0, none⟩)), (13, .pointer (some ⟨b13, 0, none⟩)), (18, .pointer (some ⟨N4, 0, none⟩)), (66, .slice ao level.length cap), (67, .int .i64 (level.length : Int)), (68, .int .i64 ((level.length - k : Nat) : Int))]) (k := level.length)
      ⟨Nat.le_refl _, _, X, [], vi, none, 0, 0, hS1, hM.ext hX1, hC, ⟨hV.choose, hX1 _ _ hV.choose_spec.1, hV.choose_spec.2⟩, hset_same _ _ _, .inl ⟨rfl, rfl⟩, (by intro e; cases e), hO, by rw [List.append_nil]; exact hB, by rw [Nat.sub_self, List.take_zero, List.append_nil, List.append_nil]; exact hcl, rfl, rfl, rfl, rfl, rfl, rfl, rfl, rfl, by rw [Nat.sub_self]; rfl, trivial⟩ ?_
    clear hS hM hC hV hS1 hX1 hB hcl hrow hO hmN
    rintro k2 E h4 N5 D ⟨hk2, m, X, next, vi, ai, ni, ci, hS, hM, hC, hV, gN, hOn, hnb, hO, hB, hcl, hE⟩
    obtain ⟨E3, rfl⟩ := hE.ex
    have hLn2 := hB.len
    simp only [List.length_append] at hLn2
    refine c_seq ?_
    refine c_region (by kernel_rfl) ?_
    refine st_q (ok_lss rfl rfl ⟨rfl, rfl, rfl⟩) ?_
    refine o_nil ?_
    refine n_then ?_
    refine c_seq ?_
    refine c_cond_prop rfl (fun hc => ?_) (fun hc => ?_)
    · skip
      generalize hq : level.length - k2 = q at *
      have hql : q < level.length := by omega
      obtain ⟨ao', cap', e', _, hrow⟩ := hO.row
      cases e'
      have hgq := List.getElem?_eq_getElem hql
      generalize hi : level[q] = i at *
      have hin : i < n := hlvn i (List.mem_of_getElem? hgq)
      obtain ⟨bL, cL, rfl, gL, gq⟩ := hrow q i hgq
      refine c_skip ?_
      refine n_then ?_
      refine c_seq ?_
      refine c_block ?_
      refine c_seq ?_
      refine c_region (by kernel_rfl) ?_
      refine st_q (ok_indexAddr (sl rfl) (ty rfl) rfl rfl (by omega) (by omega) (off := q) (by omega) ⟨rfl, rfl, rfl⟩) ?_
      refine st_q (ok_load (ty rfl) rfl (hS.oth _ _ gL) gq ⟨rfl, rfl, rfl⟩) ?_
      refine st (ok_alloc (ty rfl) rfl (fun hN20 => ?_))
      refine st0 (ok_store (ty rfl) rfl (v := .int _ _) rfl rfl (hset_same _ _ _) (Nat.le_of_ble_eq_true rfl) ?_)
      refine o_nil ?_
      have hS1 := (hS.newX (hN20 _ (Nat.le_refl _)) (.cells #[.int .i64 0] 3 (0, 0))).setX (hset_same _ _ _) (.cells #[.int .i64 (i : Int)] 3 (0, 0))
      rw [hset_hset X] at hS1
      have hX1 : Ext X (hset X N5 (.cells #[.int .i64 (i : Int)] 3 (0, 0))) := (Ext.refl X).fresh (hS.oth.back (hN20 _ (Nat.le_refl _))) _
      refine n_then ?_
      refine c_heap (fun h5 _ => ∃ X1, Sep m X1 h5 ∧ Ext X X1 ∧ X1 N5 = some (.cells #[.int .i64 (i : Int)] 3 (0, 0))) ⟨_, hS1, hX1, hset_same _ _ _⟩ ?_
      clear hS hS1 hX1
      rintro h5 N6 ⟨X1, hS, hX1, x20⟩
      refine c_seq ?_
      refine c_region (by kernel_rfl) ?_
      refine st_q (ok_move (v := .func _ _ _) rfl ⟨rfl, rfl, rfl⟩) ?_
      refine st_q (ok_load (ty rfl) rfl (hS.oth _ _ x20) rfl ⟨rfl, rfl, rfl⟩) ?_
      refine st (ok_call rfl ent45 (cyc1_ok ((hC.ext.trans (hX1.trans hS.oth)) _ _ hg) (hR.ext (hC.ext.trans (hX1.trans hS.oth))) hin) rfl ?_); rintro _ h6 N7 ⟨Y, hY, lb2, rfl, hA2⟩; refine o_nil ?_
      refine n_then ?_
      obtain ⟨hS2, hx2, hx3⟩ := hS.join hY
      have hXX := hX1.trans hx2
      have x20 := hx2 _ _ x20
      have hC2 := hC.mono hXX
      have hO2 := hO.ext hXX
      generalize uni Y X1 = X2 at *
      clear hS hX1 hx2 hC hO gL hrow
      have hAx := hA2.ext hx3
      have hSi : (S i).length ≤ 1000 := by
        have := nd_sub (hSn i hin) (hSl i hin)
        omega
      refine c_block ?_
      refine c_cut (fun E h' _ D' => Fr E [(2, .int .i64 (start : Int)), (3, .func (.func 45) #[] #[.pointer (some ⟨bg, 0, none⟩), .pointer (some ⟨bw, 0, none⟩)]), (6, .pointer (some ⟨N, 0, none⟩)), (11, .pointer (some ⟨b11, 0, none⟩)), (13, .pointer (some ⟨b13, 0, none⟩)), (18, .pointer (some ⟨N4, 0, none⟩)), (66, .slice (some ⟨bL, 0, none⟩) level.length cap), (67, .int .i64 (level.length : Int)), (68, .int .i64 (q : Int))] ∧
          ∃ m next vi ai ni ci, Sep m X2 h' ∧ Marks m D' ∧ Via m bv n vi ∧ m N4 = some (.cells #[.slice ai ni ci] 34 (0, 0)) ∧ Own m 3 1 (.slice ai ni ci) (ints next) ∧ blk (.slice ai ni ci) ≠ some bv ∧ BInv n start (done ++ level ++ next) vi ∧ (∀ x, x ∈ done ++ level.take q → ∀ y, y ∈ S x → y ∈ done ++ level ++ next) ∧ ∀ y, y ∈ S i → y ∈ done ++ level ++ next) ?_ ?_
      · skip
        refine c_adj rfl rfl hAx ((hR.own i hin).ext hC2.ext) hSi hS2
          (fun p m => ∃ next vi ai ni ci, Marks m (mark N7 :: D) ∧ Via m bv n vi ∧ m N4 = some (.cells #[.slice ai ni ci] 34 (0, 0)) ∧ Own m 3 1 (.slice ai ni ci) (ints next) ∧ blk (.slice ai ni ci) ≠ some bv ∧ BInv n start (done ++ level ++ next) vi ∧ (∀ x, x ∈ done ++ level.take q → ∀ y, y ∈ S x → y ∈ done ++ level ++ next) ∧ ∀ y, y ∈ (S i).take p → y ∈ done ++ level ++ next) (fun _ _ => False) 21 ?_ ?_ ?_ ?_ ?_
        · intro hm
          have hXm : Ext m (hset m N7 (.deferred (some []))) := (Ext.refl m).fresh hm _
          exact ⟨next, vi, ai, ni, ci, hM.cons hm, ⟨hV.choose, hXm _ _ hV.choose_spec.1, hV.choose_spec.2⟩, hXm _ _ gN, hOn.ext hXm, hnb, hB, hcl, fun y hy => by simp at hy⟩
        · intro x h' N' r Q' hQ
          refine c_region (by kernel_rfl) ?_
          refine st_q (ok_assign (v := .int _ _) rfl ⟨rfl, rfl, rfl⟩) ?_
          refine o_nil ?_
          exact hQ
        · clear hS2 hM hV gN hOn hnb hB hcl hLn2
          rintro p x m h' N' o r hx ⟨next, vi, ai, ni, ci, hM, ⟨vs, v1, v2, v3⟩, gN, hOn, hnb, hB, hcl, hp⟩ hd hS hXo
          have hLn2 := hB.len
          simp only [List.length_append] at hLn2
          have hil := ints_len next
          have hxn : x < n := hSl i hin x (List.mem_of_getElem? hx)
          have hiL : i ∈ done ++ level ++ next := List.mem_append_left _ (List.mem_append_right _ (List.mem_of_getElem? hgq))
          refine c_block ?_
          refine c_seq ?_
          by_cases hneg : vi x < 0
          · skip
            refine c_region (by kernel_rfl) ?_
            refine st_q (ok_load (ty rfl) rfl (hS.oth _ _ (hXo _ _ hC2.x13)) rfl ⟨rfl, rfl, rfl⟩) ?_
            refine st_q (ok_move (v := .int _ _) rfl ⟨rfl, rfl, rfl⟩) ?_
            refine st_q (ok_indexAddr (sl rfl) (ty rfl) rfl rfl (by omega) (by omega) (off := x) (by omega) ⟨rfl, rfl, rfl⟩) ?_
            refine st_q (ok_load (ty rfl) rfl (hS.own _ _ v1) (v3 x hxn) ⟨rfl, rfl, rfl⟩) ?_
            refine st_q (ok_lss_t rfl rfl ((hneg)) ⟨rfl, rfl, rfl⟩) ?_
            refine st_q (ok_move (v := .bool _) rfl ⟨rfl, rfl, rfl⟩) ?_
            refine st_g rfl (ok_move (v := .int _ _) rfl ⟨rfl, rfl, rfl⟩) ?_
            refine st_g rfl (ok_load (ty rfl) rfl (hS.oth _ _ (hXo _ _ hC2.x6)) rfl ⟨rfl, rfl, rfl⟩) ?_
            refine st_g rfl (ok_neq rfl rfl ⟨rfl, rfl, rfl⟩) ?_
            refine st_q (ok_pick_true rfl rfl ⟨rfl, rfl, rfl⟩) ?_
            refine o_nil ?_
            refine n_then ?_
            refine c_cond_prop rfl (fun hc2 => ?_) (fun hc2 => ?_)
            · skip
              refine c_seq ?_
              refine c_region (by kernel_rfl) ?_
              refine st_q (ok_load (ty rfl) rfl (hS.oth _ _ (hXo _ _ hC2.x13)) rfl ⟨rfl, rfl, rfl⟩) ?_
              refine st_q (ok_move (v := .int _ _) rfl ⟨rfl, rfl, rfl⟩) ?_
              refine st_q (ok_load (ty rfl) rfl (hS.oth _ _ (hXo _ _ x20)) rfl ⟨rfl, rfl, rfl⟩) ?_
              refine st_q (ok_indexAddr (sl rfl) (ty rfl) rfl rfl (by omega) (by omega) (off := x) (by omega) ⟨rfl, rfl, rfl⟩) ?_
              refine st0 (ok_store (ty rfl) rfl (v := .int _ _) rfl rfl (hS.own _ _ v1) (by omega) ?_)
              refine o_nil ?_
              refine n_then ?_
              have hS3 := hS.set v1 (.cells (setA vs x (.int .i64 (i : Int))) 3 (0, 0))
              have nN : N4 ≠ bv := (ne_of_ty v1 gN rfl).symm
              have gN3 : (hset m bv (.cells (setA vs x (.int .i64 (i : Int))) 3 (0, 0))) N4 = _ := (hset_ne _ _ nN).trans gN
              have hOn3 := hOn.off (b := bv) hnb (.cells (setA vs x (.int .i64 (i : Int))) 3 (0, 0))
              have hM3 := hM.set (o := .cells (setA vs x (.int .i64 (i : Int))) 3 (0, 0)) v1
              have hd3 : (hset m bv (.cells (setA vs x (.int .i64 (i : Int))) 3 (0, 0))) N7 = _ := (hset_ne _ _ (ne_of_obj hd v1 (by intro e; cases e))).trans hd
              have hv3 := hset_same m bv (.cells (setA vs x (.int .i64 (i : Int))) 3 (0, 0))
              refine c_heap (fun h8 _ => ∃ m3, Sep m3 (hset X2 (N7 + 1) o) h8 ∧ m3 N4 = some (.cells #[.slice ai ni ci] 34 (0, 0)) ∧ Own m3 3 1 (.slice ai ni ci) (ints next) ∧ Marks m3 (mark N7 :: D) ∧ m3 N7 = some (.deferred (some [])) ∧ m3 bv = some (.cells (setA vs x (.int .i64 (i : Int))) 3 (0, 0))) ⟨_, hS3, gN3, hOn3, hM3, hd3, hv3⟩ ?_
              clear hS3 gN3 hOn3 hM3 hd3 hv3 hS hM v1 gN hOn hd
              rintro h8 N8 ⟨m, hS, gN, hOn, hM, hd, hv⟩
              refine c_region (by kernel_rfl) ?_
              refine st_q (ok_load (ty rfl) rfl (hS.own _ _ gN) rfl ⟨rfl, rfl, rfl⟩) ?_
              refine st_q (ok_move (v := .int _ _) rfl ⟨rfl, rfl, rfl⟩) ?_
              refine st (ok_buildSlice (sl rfl) (ty rfl) rfl (vs := #[.int .i64 (x : Int)]) (by kernel_rfl) (by decide) (by decide) (fun hN92 => ?_))
              refine st (ok_append rfl (sl rfl) (ty rfl) rfl rfl (hOn.ext (hS.own.trans (Ext.push hN92 _))) rfl (hset_same _ _ _) (Nat.le_of_ble_eq_true rfl) (by simp [isOne]) (by decide) (by decide) (by omega) (by omega) (fun b' n' c' cs' N9 hcase hcz hnc hln htk hnq => ?_))
              have hS5 := hS.fresh (hN92 _ (Nat.le_refl _)) (.cells #[.int .i64 (x : Int)] 3 (0, 0))
              obtain ⟨hS6, hO6, hk6⟩ := own_grow (ys := ints next ++ [Value.int .i64 (x : Int)]) hS5 hOn hcase hcz hnc hln htk
              have gN6 := hk6 _ _ gN (hOn.noty gN rfl)
              have hv6 := hk6 _ _ hv hnb
              have hd6 := hk6 _ _ hd (hOn.nodef hd)
              have hM6 := hM.keep (fun c hc => hk6 c _ hc (hOn.nodef hc))
              have hbb : b' ≠ bv := by
                rcases Grown.or (m := m) hcase hS5.own with ⟨_, h1⟩ | h1
                · exact (ne_of_none hv h1).symm
                · exact fun e => hnb (by rw [← e]; exact h1)
              refine st0 (ok_store (ty rfl) rfl (v := .slice _ _ _) rfl rfl (hS6.own _ _ gN6) (Nat.le_of_ble_eq_true rfl) ?_)
              refine o_nil ?_
              refine n_block ⟨_, hS6.set gN6 _, (hset_ne _ _ (ne_of_obj hd6 gN6 (by intro e; cases e))).trans hd6, next ++ [x], (fun k => if k = x then (i : Int) else vi k), some ⟨b', 0, none⟩, n', c', hM6.set gN6, ⟨_, (hset_ne _ _ nN.symm).trans hv6, by rw [setA_size]; exact v2, fun j hj => ?_⟩, hset_same _ _ _, ?_, ?_, ?_, ?_, ?_⟩
              · by_cases e : j = x
                · subst e; rw [setA_same _ _ (by omega)]; simp
                · rw [setA_ne _ _ (fun e2 => e e2.symm), v3 j hj]; simp [e]
              · rw [ints_append]
                exact hO6.off (by intro e; cases e; exact ne_of_ty gN6 (hset_same _ _ _) rfl rfl) _
              · intro e; cases e; exact hbb rfl
              · rw [← List.append_assoc]
                exact hB.step hiL hxn hneg (fun e => hc2 (by rw [e]))
              · intro y hy z hz
                have := hcl y hy z hz
                rw [← List.append_assoc]; exact List.mem_append_left _ this
              · intro y hy
                rw [← List.append_assoc]
                rcases mem_take_succ hx hy with h2 | h2
                · exact List.mem_append_left _ (hp y h2)
                · rw [h2]; simp
            · skip
              refine c_skip ?_
              refine n_block ⟨m, hS, hd, next, vi, ai, ni, ci, hM, ⟨vs, v1, v2, v3⟩, gN, hOn, hnb, hB, hcl, fun y hy => ?_⟩
              rcases mem_take_succ hx hy with h2 | h2
              · exact hp y h2
              · rw [h2]; exact hB.have hxn (fun hh => hc2 (fun e => hh.2 (by omega)))
          · skip
            refine c_region (by kernel_rfl) ?_
            refine st_q (ok_load (ty rfl) rfl (hS.oth _ _ (hXo _ _ hC2.x13)) rfl ⟨rfl, rfl, rfl⟩) ?_
            refine st_q (ok_move (v := .int _ _) rfl ⟨rfl, rfl, rfl⟩) ?_
            refine st_q (ok_indexAddr (sl rfl) (ty rfl) rfl rfl (by omega) (by omega) (off := x) (by omega) ⟨rfl, rfl, rfl⟩) ?_
            refine st_q (ok_load (ty rfl) rfl (hS.own _ _ v1) (v3 x hxn) ⟨rfl, rfl, rfl⟩) ?_
            refine st_q (ok_lss_f rfl rfl ((hneg)) ⟨rfl, rfl, rfl⟩) ?_
            refine st_q (ok_move (v := .bool _) rfl ⟨rfl, rfl, rfl⟩) ?_
            refine st_s rfl ?_
            refine st_s rfl ?_
            refine st_s rfl ?_
            refine st_q (ok_pick_false rfl rfl ⟨rfl, rfl, rfl⟩) ?_
            refine o_nil ?_
            refine n_then ?_
            refine c_cond_false rfl ?_
            refine c_skip ?_
            refine n_block ⟨m, hS, hd, next, vi, ai, ni, ci, hM, ⟨vs, v1, v2, v3⟩, gN, hOn, hnb, hB, hcl, fun y hy => ?_⟩
            rcases mem_take_succ hx hy with h2 | h2
            · exact hp y h2
            · rw [h2]; exact hB.have hxn (fun hh => hneg hh.1)
        · rintro m' h' N' ⟨next, vi, ai, ni, ci, hM, hV, gN, hOn, hnb, hB, hcl, hp⟩ hS hd
          exact n_then ⟨⟨rfl, rfl, rfl, rfl, rfl, rfl, rfl, rfl, rfl, trivial⟩, m', next, vi, ai, ni, ci, hS, hM, hV, gN, hOn, hnb, hB, hcl, fun y hy => hp y (by rw [List.take_length]; exact hy)⟩
        · intro id m' h' N' hf; exact hf.elim
      clear hS2 hM hV gN hOn hnb hB hcl hLn2
      rintro E h7 N8 D' ⟨hEr, m, next, vi, ai, ni, ci, hS, hM, hV, gN, hOn, hnb, hB, hcl, hp⟩
      obtain ⟨E4, rfl⟩ := hEr.ex
      refine n_block (n_block (n_then ?_))
      refine c_region (by kernel_rfl) ?_
      refine st_q (ok_add rfl rfl (by omega) (by omega) ⟨rfl, rfl, rfl⟩) ?_
      refine st_q (ok_move (v := .int _ _) rfl ⟨rfl, rfl, rfl⟩) ?_
      refine o_nil ?_
      refine n_then ⟨k2 - 1, by omega, by omega, m, X2, next, vi, ai, ni, ci, hS, hM, hC2, hV, gN, hOn, hnb, hO2, hB, ?_, rfl, rfl, rfl, rfl, rfl, rfl, rfl, rfl, ?_, trivial⟩
      · rw [show level.length - (k2 - 1) = q + 1 from by omega, List.take_add_one, hgq]
        intro x hx y hy
        simp only [List.mem_append, Option.toList_some, List.mem_singleton] at hx
        rcases hx with hx | hx | hx
        · exact hcl x (List.mem_append_left _ hx) y hy
        · exact hcl x (List.mem_append_right _ hx) y hy
        · subst hx; exact hp y hy
      · show Value.int .i64 ((q : Int) + 1) = _
        congr 1; omega
    · skip
      have hk0 : k2 = 0 := by omega
      subst hk0
      rw [Nat.sub_zero, List.take_length] at hcl
      refine c_exit ?_
      refine x_then (x_then (x_block (n_then ?_)))
      refine c_region (by kernel_rfl) ?_
      refine st_q (ok_load (ty rfl) rfl (hS.own _ _ gN) rfl ⟨rfl, rfl, rfl⟩) ?_
      refine st_q (ok_assign (v := .slice _ _ _) rfl ⟨rfl, rfl, rfl⟩) ?_
      refine o_nil ?_
      have hnn : next ≠ [] := by
        intro e
        subst e
        rw [List.append_nil] at hcl hB
        refine never_dry (n := n) hB.st hs hSl hcl (fun x hx => ?_) hleads hcy
        rcases List.mem_append.1 hx with h1 | h1
        · exact hno x h1
        · exact hnone x h1
      rcases hOn with ⟨h1, h2⟩ | ⟨b, n', c', cs, h1, h2, h3, h4, h5, h6⟩
      · exact absurd (by simpa [ints] using h2) hnn
      · cases h1
        have hnl : next.length = ni := by rw [← ints_len next]; omega
        subst hnl
        have hXg : Ext X (hset X b (.cells cs 3 (0, 0))) := (Ext.refl X).fresh (hS.noX h2) _
        have nb : bv ≠ b := fun e => hnb (by rw [e]; rfl)
        obtain ⟨vs, v1, v2, v3⟩ := hV
        refine n_block (n_then ⟨n - (done ++ level).length, ?_, _, _, done ++ level, next, vi, _, _, hS.give h2, hM.del h2, hC.mono hXg, ⟨vs, (del_ne _ nb).trans v1, v2, v3⟩, .inr ⟨b, next.length, _, cs, rfl, hset_same _ _ _, h3, h4, h5, h6⟩, hnn, hB, hcl, ?_, rfl, rfl, rfl, rfl, rfl, rfl, rfl, trivial⟩)
        · rw [List.length_append]; omega
        · intro x hx
          rcases List.mem_append.1 hx with h1 | h1
          · exact hno x h1
          · exact hnone x h1
end
end Sx
end Go.Proofs.YbulkcsqkGreat
