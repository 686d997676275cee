import Derived.Test.YbulkcsqkGreatSxTxSort
import Derived.Test.YbulkcsqkGreatSxFill
import Derived.Test.YbulkcsqkGreatSxRec
namespace Go.Proofs.YbulkcsqkGreat
namespace Sx
set_option maxRecDepth 10000
set_option maxHeartbeats 2000000
variable {w0 : World}
theorem tc_congr {n : Nat} {S R : Nat → List Nat} (hc : ∀ i, i < n → ∀ x, x ∈ S i → x ∈ R i) (hl : ∀ i, i < n → ∀ k, k ∈ S i → k < n) {i j : Nat} (h : TC S i j) : i < n → TC R i j := by
  induction h using TC.ind with
  | one h => exact fun hi => .one (hc _ hi _ h)
  | cons h _ ih => exact fun hi => .cons (hc _ hi _ h) (ih (hl _ hi _ h))
theorem rc_congr {n : Nat} {S R : Nat → List Nat} (hc : ∀ i, i < n → ∀ x, x ∈ S i ↔ x ∈ R i) (hl : ∀ i, i < n → ∀ k, k ∈ S i → k < n) {i j : Nat} (hi : i < n) : RC S i j ↔ RC R i j := by
  have hl2 : ∀ i, i < n → ∀ k, k ∈ R i → k < n := fun i hi k hk => hl i hi k ((hc i hi k).2 hk)
  constructor
  · rintro (h | h)
    · exact .inl h
    · exact .inr (tc_congr (fun i hi x => (hc i hi x).1) hl h hi)
  · rintro (h | h)
    · exact .inl h
    · exact .inr (tc_congr (fun i hi x => (hc i hi x).2) hl2 h hi)

section
variable {h : Hp} {N : Nat}
/-- Which row or column an edge is looked up in. -/
def Lk (rb1 rb2 x0 x1 : Nat) (f0 f1 : Bool) (rb x y : Nat) (f : Bool) : Prop := (f0 = true ∧ rb = rb2 ∧ x = x1 ∧ y = x0 ∧ f = true) ∨ (f0 = false ∧ rb = rb1 ∧ x = x0 ∧ y = x1 ∧ f = f1)
theorem lookup2_ok {bc rb1 rb2 W L x0 x1 : Nat} {f0 f1 : Bool} {cs : Array Value} {te : TypeId} {fz : Nat × Nat} (hb : h bc = some (.cells cs te fz)) (c0 : cs[0]? = some (.int .i64 W)) (c1 : cs[0 + 1]? = some (.slice (some ⟨rb1, 0, none⟩) L L)) (c2 : cs[0 + 2]? = some (.slice (some ⟨rb2, 0, none⟩) L L))
    (h0 : (x0 + 1) * W ≤ L) (h1 : (x1 + 1) * W ≤ L) (hW : 0 < W) (hL : L ≤ 1000000) :
    CallsX Ybaz.prog w0 13 #[.agg #[.int .i64 (x0 : Int), .bool f0, .int .i64 (x1 : Int), .bool f1], .pointer (some ⟨bc, 0, none⟩)] h N
      (fun u h' _ => Ext h h' ∧ ∃ rb x y f c, u = .tuple #[.slice (some ⟨rb, x * W, none⟩) W c, .agg #[.int .i64 ((y : Nat) : Int), .bool f]] ∧ Lk rb1 rb2 x0 x1 f0 f1 rb x y f) := by
  refine (lookup_ok hb c0 c1 c2 h0 h1 hW hL).mono ?_
  rintro u h' N' ⟨hx, hu⟩
  refine ⟨hx, ?_⟩
  cases f0
  · exact ⟨rb1, x0, x1, f1, _, hu, .inr ⟨rfl, rfl, rfl, rfl, rfl⟩⟩
  · exact ⟨rb2, x1, x0, true, _, hu, .inl ⟨rfl, rfl, rfl, rfl, rfl⟩⟩
theorem look_bit {X : Hp} {rb1 rb2 x0 x1 rb x y n W : Nat} {f0 f1 f : Bool} {F1 F2 : Nat → Int} {R : Nat → List Nat} {B : Nat → Nat → Bool} (hk : Lk rb1 rb2 x0 x1 f0 f1 rb x y f) (m1 : Mat X rb1 n W F1) (m2 : Mat X rb2 n W F2) (b1 : ∀ i x, i < n → x < n → (bit W F1 i x = true ↔ RC R i x)) (b2 : ∀ j x, j < n → x < n → (bit W F2 j x = true ↔ RC R x j)) (hB : ∀ i j, i < n → j < n → (B i j = true ↔ RC R i j))
    (hx0 : x0 < n) (hx1 : x1 < n) (hf : f0 = true → f1 = false) : ∃ F, Mat X rb n W F ∧ x < n ∧ ∀ m, atN f0 x0 m < n → atN f1 x1 m < n → atN f y m < n ∧ bit W F x (atN f y m) = B (atN f0 x0 m) (atN f1 x1 m) := by
  rcases hk with ⟨h0, rfl, rfl, rfl, rfl⟩ | ⟨h0, rfl, rfl, rfl, rfl⟩
  · refine ⟨F2, m2, hx1, fun m ha hb => ?_⟩
    have h1 := hf h0
    subst h0 h1
    refine ⟨ha, ?_⟩
    have e : atN false x m = x := rfl
    rw [e, Bool.eq_iff_iff, b2 _ _ hx1 ha, hB _ _ ha hx1]
  · refine ⟨F1, m1, hx0, fun m ha hb => ?_⟩
    subst h0
    refine ⟨hb, ?_⟩
    have e : atN false x m = x := rfl
    rw [e, Bool.eq_iff_iff, b1 _ _ hx0 hb, hB _ _ hx0 hb]
theorem sep3 {h h' : Hp} {a b c : Nat} {oa ob oc : Obj} (ab : a ≠ b) (ac : a ≠ c) (bc : b ≠ c) (ha : h a = none) (hb : h b = none) (hx : Ext h h') (ga : h' a = some oa) (gb : h' b = some ob) (gc : h' c = some oc) : Sep (hset (hset (fun _ => none) a oa) b ob) (hset h c oc) h' := by
  refine ⟨fun x o e => ?_, fun x o e => ?_, fun x => ?_⟩
  · by_cases e1 : x = b
    · subst e1; rw [hset_same] at e; rw [gb]; exact e
    · rw [hset_ne _ _ e1] at e
      by_cases e2 : x = a
      · subst e2; rw [hset_same] at e; rw [ga]; exact e
      · rw [hset_ne _ _ e2] at e; cases e
  · by_cases e1 : x = c
    · subst e1; rw [hset_same] at e; rw [gc]; exact e
    · rw [hset_ne _ _ e1] at e; exact hx _ _ e
  · by_cases e1 : x = b
    · subst e1; exact .inr ((hset_ne _ _ bc).trans hb)
    · by_cases e2 : x = a
      · subst e2; exact .inr ((hset_ne _ _ ac).trans ha)
      · exact .inl ((hset_ne _ _ e1).trans (hset_ne _ _ e2))
theorem rows_over {h : Hp} {bs n b : Nat} {V : Nat → Value} {S : Nat → List Nat} {z : Array Value} {fz : Nat × Nat} (hr : Rows h bs n V S) (hb : h b = some (.cells z 69 fz)) (o : Obj) : Rows (hset h b o) bs n V S := by
  refine hr.off ?_ (fun i hi => (hr.own i hi).noty hb rfl)
  obtain ⟨vs, h1, _⟩ := hr.top
  exact ne_of_ty h1 hb rfl

theorem unimplIter_ok {l bp be n nc cc cg : Nat} {an ag : Option Addr} {pc : Array Value} {M : Nat → Option Nat} {R : Nat → List Nat} {gl : List Grp} {B : Nat → Nat → Bool} {recs : List Rc} {Y X : Hp} {J : List Rc → Hp → Hp → Nat → Prop} {Jx : Hp → Nat → Prop}
    (hp : Y bp = some (.cells pc 39 (0, 0))) (p0 : pc[0 + 0]? = some (.slice an n nc)) (p1 : pc[0 + 1]? = some (.slice (some ⟨be, 0, none⟩) n cc)) (p2 : pc[0 + 2]? = some (.slice ag gl.length cg)) (p5 : pc[0 + 5]? = some (.slice none 0 0))
    (hgs : ∀ k g, gl[k]? = some g → ∃ bg gc fz, ag = some ⟨bg, 0, none⟩ ∧ Y bg = some (.cells gc 51 fz) ∧ GrpAt Y gc (k * 14) g) (hgl : gl.length ≤ 256)
    (hE : ES Y be n M R) (hRn : ∀ i, i < n → (R i).Nodup) (hRl : ∀ i, i < n → ∀ k, k ∈ R i → k < n) (hn0 : 0 < n) (hn : n ≤ 80) (hok : ∀ g, g ∈ gl → g.Ok n) (hB : ∀ i j, i < n → j < n → (B i j = true ↔ RC R i j))
    (hcyc : (∃ i, i < n ∧ TC R i i) → recs = []) (hacy : (¬ ∃ i, i < n ∧ TC R i i) → recs = allTo gl B gl.length)
    (j1 : ∀ A X h N, J A X h N → Ext X h) (jx : ∀ A X h N h' N', J A X h N → Ext h h' → ∃ X', Ext X X' ∧ (∀ c o, h c = none → h' c = some o → X' c = some o) ∧ J A X' h' N')
    (hY : ∀ A (r : Rc) C X h N, recs = A ++ r :: C → J A X h N → YieldsTo Ybaz.prog w0 l [.agg #[.int .i64 (r.1 : Int), .int .i64 (r.2.1 : Int), .int .i64 (r.2.2.1 : Int), .int .i64 (r.2.2.2.1 : Int)], .string r.2.2.2.2] h N (fun b h' N' => (b = true ∧ J (A ++ [r]) X h' N') ∨ (b = false ∧ Jx h' N')))
    (h0 : J [] X h N) (hX : Ext Y X) :
    CallsX Ybaz.prog w0 8 #[.func (.yield l) #[] #[], .pointer (some ⟨bp, 0, none⟩)] h N (fun _ h' N' => (∃ X', J recs X' h' N') ∨ Jx h' N') := by
  refine calls_of Ybaz.func8 rfl Ybaz.ntmps8 (Nat.le_of_ble_eq_true rfl) ?_
  have hYh := hX.trans (j1 _ _ _ _ h0)
  have hRl2 : ∀ i, i < n → (R i).length ≤ 100 := fun i hi => by have := nd_sub (hRn i hi) (hRl i hi); omega
  refine c_seq ?_
  refine c_cut (fun E h' _ D => D = [] ∧ ∃ b3 bs V S, Ext h h' ∧ h' b3 = some (.cells (gcells an n nc bs) 69 (0, 0)) ∧ Rows h' bs n V S ∧ (∀ i, i < n → (S i).Perm (R i)) ∧ Fr E [(0, .func (.yield l) #[] #[]), (1, .pointer (some ⟨bp, 0, none⟩)), (3, .pointer (some ⟨b3, 0, none⟩))]) ?_ ?_
  · skip
    refine c_draw mixed [0, 0, 0, 0, 1, 2, 1, 2] 8 rfl [((0, 2), [((1, 1), [((2, 2), [((3, 1), [((4, 0), [((5, 0), [((6, 0), [((7, 0), ())])]), ((6, 0), [((5, 0), [((7, 0), ())])])]), ((6, 0), [((4, 0), [((5, 0), [((7, 0), ())])])])])])])])] (by kernel_rfl) (by kernel_rfl) ?_
    refine w_p rfl (fun _ _ => ok_fieldAddr (fld rfl) rfl ⟨rfl, rfl, rfl⟩) ?_
    refine w_r rfl (fun _ _ hExt => ok_load (ty rfl) rfl (hExt _ _ (hYh _ _ hp)) p0 ⟨rfl, rfl, rfl⟩) ?_
    refine w_p rfl (fun _ _ => ok_fieldAddr (fld rfl) rfl ⟨rfl, rfl, rfl⟩) ?_
    refine w_r rfl (fun _ _ hExt => ok_load (ty rfl) rfl (hExt _ _ (hYh _ _ hp)) p1 ⟨rfl, rfl, rfl⟩) ?_
    refine w_cons ?_ (w_cons ?_ (w_none))
    · skip
      refine w_e rfl (ok_call rfl ent10 (all_ok ⟨_, _, _, rfl⟩) rfl ?_)
      rintro _ h1 N1 ⟨rfl, rfl, rfl, hN25⟩
      refine ⟨.inr ⟨_, rfl, rfl⟩, ?_⟩
      refine w_cons ?_ (w_cons ?_ (w_none))
      · skip
        refine w_e rfl (ok_call rfl ent9 (newTxGraph_ok (hE.ext (hYh.trans (by first | exact Ext.push hN25 _ | exact (Ext.push hN25 _).trans (Ext.push hN3 _) | exact (Ext.push hN3 _).trans (Ext.push hN25 _)))) (by first | exact hset_same _ _ _ | exact (hset_ne _ _ (by omega)).trans (hset_same _ _ _)) (Ext.refl _) (by omega) hRn hRl2) rfl ?_)
        rintro _ h2 N2 ⟨hx2, bs, V, S, rfl, hRw, hperm⟩
        refine ⟨trivial, ?_⟩
        refine w_e rfl (ok_alloc (ty rfl) rfl (fun hN3 => ⟨.inr ⟨_, rfl, rfl⟩, ?_⟩))
        refine w_e0 rfl (ok_storeL (ty rfl) rfl (v := .agg _) rfl rfl rfl rfl (by first | exact hset_same _ _ _ | exact hx2 _ _ (hset_same _ _ _) | exact hx2 _ _ ((hset_ne _ _ (by omega)).trans (hset_same _ _ _))) (Nat.le_of_ble_eq_true rfl) ⟨trivial, ?_⟩)
        refine w_nil ?_
        first | (have e := (Ext.push hN25 (.cells #[.slice (some ⟨be, 0, none⟩) n cc] 31 (0, 0))).trans hx2; exact n_then ⟨rfl, _, bs, V, S, (e.fresh (e.back (hN3 _ (Nat.le_refl _))) _).fresh (e.back (hN3 _ (Nat.le_refl _))) _, hset_same _ _ _, by rw [hset_hset]; exact hRw.ext (Ext.push hN3 _), hperm, rfl, rfl, rfl, trivial⟩) | (have e := ((Ext.push hN25 (.cells #[.slice (some ⟨be, 0, none⟩) n cc] 31 (0, 0))).trans (Ext.push hN3 (.cells #[.slice none 0 0, .slice none 0 0, .slice none 0 0, .slice none 0 0, .slice none 0 0] 69 (0, 0)))).trans hx2; exact n_then ⟨rfl, _, bs, V, S, e.fresh (hN25 _ (by omega)) _, hset_same _ _ _, rows_over hRw (hx2 _ _ (hset_same _ _ _)) _, hperm, rfl, rfl, rfl, trivial⟩) | (have e := ((Ext.push hN3 (.cells #[.slice none 0 0, .slice none 0 0, .slice none 0 0, .slice none 0 0, .slice none 0 0] 69 (0, 0))).trans (Ext.push hN25 (.cells #[.slice (some ⟨be, 0, none⟩) n cc] 31 (0, 0)))).trans hx2; exact n_then ⟨rfl, _, bs, V, S, e.fresh (hN3 _ (Nat.le_refl _)) _, hset_same _ _ _, rows_over hRw (hx2 _ _ ((hset_ne _ _ (by omega)).trans (hset_same _ _ _))) _, hperm, rfl, rfl, rfl, trivial⟩)
      · skip
        refine w_e rfl (ok_alloc (ty rfl) rfl (fun hN3 => ⟨.inr ⟨_, rfl, rfl⟩, ?_⟩))
        refine w_e rfl (ok_call rfl ent9 (newTxGraph_ok (hE.ext (hYh.trans (by first | exact Ext.push hN25 _ | exact (Ext.push hN25 _).trans (Ext.push hN3 _) | exact (Ext.push hN3 _).trans (Ext.push hN25 _)))) (by first | exact hset_same _ _ _ | exact (hset_ne _ _ (by omega)).trans (hset_same _ _ _)) (Ext.refl _) (by omega) hRn hRl2) rfl ?_)
        rintro _ h2 N2 ⟨hx2, bs, V, S, rfl, hRw, hperm⟩
        refine ⟨trivial, ?_⟩
        refine w_e0 rfl (ok_storeL (ty rfl) rfl (v := .agg _) rfl rfl rfl rfl (by first | exact hset_same _ _ _ | exact hx2 _ _ (hset_same _ _ _) | exact hx2 _ _ ((hset_ne _ _ (by omega)).trans (hset_same _ _ _))) (Nat.le_of_ble_eq_true rfl) ⟨trivial, ?_⟩)
        refine w_nil ?_
        first | (have e := (Ext.push hN25 (.cells #[.slice (some ⟨be, 0, none⟩) n cc] 31 (0, 0))).trans hx2; exact n_then ⟨rfl, _, bs, V, S, (e.fresh (e.back (hN3 _ (Nat.le_refl _))) _).fresh (e.back (hN3 _ (Nat.le_refl _))) _, hset_same _ _ _, by rw [hset_hset]; exact hRw.ext (Ext.push hN3 _), hperm, rfl, rfl, rfl, trivial⟩) | (have e := ((Ext.push hN25 (.cells #[.slice (some ⟨be, 0, none⟩) n cc] 31 (0, 0))).trans (Ext.push hN3 (.cells #[.slice none 0 0, .slice none 0 0, .slice none 0 0, .slice none 0 0, .slice none 0 0] 69 (0, 0)))).trans hx2; exact n_then ⟨rfl, _, bs, V, S, e.fresh (hN25 _ (by omega)) _, hset_same _ _ _, rows_over hRw (hx2 _ _ (hset_same _ _ _)) _, hperm, rfl, rfl, rfl, trivial⟩) | (have e := ((Ext.push hN3 (.cells #[.slice none 0 0, .slice none 0 0, .slice none 0 0, .slice none 0 0, .slice none 0 0] 69 (0, 0))).trans (Ext.push hN25 (.cells #[.slice (some ⟨be, 0, none⟩) n cc] 31 (0, 0)))).trans hx2; exact n_then ⟨rfl, _, bs, V, S, e.fresh (hN3 _ (Nat.le_refl _)) _, hset_same _ _ _, rows_over hRw (hx2 _ _ ((hset_ne _ _ (by omega)).trans (hset_same _ _ _))) _, hperm, rfl, rfl, rfl, trivial⟩)
    · skip
      refine w_e rfl (ok_alloc (ty rfl) rfl (fun hN3 => ⟨.inr ⟨_, rfl, rfl⟩, ?_⟩))
      refine w_e rfl (ok_call rfl ent10 (all_ok ⟨_, _, _, rfl⟩) rfl ?_)
      rintro _ h1 N1 ⟨rfl, rfl, rfl, hN25⟩
      refine ⟨.inr ⟨_, rfl, rfl⟩, ?_⟩
      refine w_e rfl (ok_call rfl ent9 (newTxGraph_ok (hE.ext (hYh.trans (by first | exact Ext.push hN25 _ | exact (Ext.push hN25 _).trans (Ext.push hN3 _) | exact (Ext.push hN3 _).trans (Ext.push hN25 _)))) (by first | exact hset_same _ _ _ | exact (hset_ne _ _ (by omega)).trans (hset_same _ _ _)) (Ext.refl _) (by omega) hRn hRl2) rfl ?_)
      rintro _ h2 N2 ⟨hx2, bs, V, S, rfl, hRw, hperm⟩
      refine ⟨trivial, ?_⟩
      refine w_e0 rfl (ok_storeL (ty rfl) rfl (v := .agg _) rfl rfl rfl rfl (by first | exact hset_same _ _ _ | exact hx2 _ _ (hset_same _ _ _) | exact hx2 _ _ ((hset_ne _ _ (by omega)).trans (hset_same _ _ _))) (Nat.le_of_ble_eq_true rfl) ⟨trivial, ?_⟩)
      refine w_nil ?_
      first | (have e := (Ext.push hN25 (.cells #[.slice (some ⟨be, 0, none⟩) n cc] 31 (0, 0))).trans hx2; exact n_then ⟨rfl, _, bs, V, S, (e.fresh (e.back (hN3 _ (Nat.le_refl _))) _).fresh (e.back (hN3 _ (Nat.le_refl _))) _, hset_same _ _ _, by rw [hset_hset]; exact hRw.ext (Ext.push hN3 _), hperm, rfl, rfl, rfl, trivial⟩) | (have e := ((Ext.push hN25 (.cells #[.slice (some ⟨be, 0, none⟩) n cc] 31 (0, 0))).trans (Ext.push hN3 (.cells #[.slice none 0 0, .slice none 0 0, .slice none 0 0, .slice none 0 0, .slice none 0 0] 69 (0, 0)))).trans hx2; exact n_then ⟨rfl, _, bs, V, S, e.fresh (hN25 _ (by omega)) _, hset_same _ _ _, rows_over hRw (hx2 _ _ (hset_same _ _ _)) _, hperm, rfl, rfl, rfl, trivial⟩) | (have e := ((Ext.push hN3 (.cells #[.slice none 0 0, .slice none 0 0, .slice none 0 0, .slice none 0 0, .slice none 0 0] 69 (0, 0))).trans (Ext.push hN25 (.cells #[.slice (some ⟨be, 0, none⟩) n cc] 31 (0, 0)))).trans hx2; exact n_then ⟨rfl, _, bs, V, S, e.fresh (hN3 _ (Nat.le_refl _)) _, hset_same _ _ _, rows_over hRw (hx2 _ _ ((hset_ne _ _ (by omega)).trans (hset_same _ _ _))) _, hperm, rfl, rfl, rfl, trivial⟩)
  rintro E h1 N1 D ⟨rfl, b3, bs, V, S, hx1, g3, hRw, hperm, hE'⟩
  obtain ⟨E0, rfl⟩ := hE'.ex
  have hSR : ∀ i, i < n → ∀ x, x ∈ S i ↔ x ∈ R i := fun i hi x => (hperm i hi).mem_iff
  have hSl : ∀ i, i < n → ∀ k, k ∈ S i → k < n := fun i hi k hk => hRl i hi k ((hSR i hi k).1 hk)
  have hSn : ∀ i, i < n → (S i).Nodup := fun i hi => (hperm i hi).nodup_iff.2 (hRn i hi)
  refine n_then ?_
  refine c_seq ?_
  refine c_region (by kernel_rfl) ?_
  refine st_q (ok_loadAgg (ty rfl) rfl g3 (Nat.le_of_ble_eq_true rfl) rfl ⟨rfl, rfl, rfl⟩) ?_
  refine st (ok_call rfl ent11 (txsort_ok hRw hSl hSn (by omega)) rfl ?_)
  rintro u h2 N2 ⟨hx2, hcase⟩
  have hx12 := hx1.trans hx2
  rcases hcase with ⟨hcy, a1, a2, a3, rfl⟩ | ⟨ord, bo, co, ocs, rfl, gbo, htk, hol, hnd, hall, hlt, hT⟩
  · skip
    refine st_q (ok_move (v := .tuple _) rfl ⟨rfl, rfl, rfl⟩) ?_
    refine st_q (ok_extract rfl rfl ⟨rfl, rfl, rfl⟩) ?_
    refine st_q (ok_extract rfl rfl ⟨rfl, rfl, rfl⟩) ?_
    refine st_q (ok_assign (v := .slice _ _ _) rfl ⟨rfl, rfl, rfl⟩) ?_
    refine st_q (ok_assign (v := .slice _ _ _) rfl ⟨rfl, rfl, rfl⟩) ?_
    refine o_nil ?_
    refine n_then ?_
    refine c_seq ?_
    refine c_seq ?_
    refine c_region (by kernel_rfl) ?_
    refine st_q (ok_move (v := .slice _ _ _) rfl ⟨rfl, rfl, rfl⟩) ?_
    refine st_q (ok_neq_nil (sl rfl) rfl rfl ⟨rfl, rfl, rfl⟩) ?_
    refine o_nil ?_
    refine n_then ?_
    refine c_cond_true rfl ?_
    refine c_ret ?_
    obtain ⟨X2, _, _, hJ2⟩ := jx _ _ _ _ _ N2 h0 hx12
    have hre : recs = [] := by
      obtain ⟨i, hi, hti⟩ := hcy
      exact hcyc ⟨i, hi, tc_congr (fun i hi x => (hSR i hi x).1) hSl hti hi⟩
    rw [hre]
    exact r_then (r_leave (leave_none rfl (.inl ⟨X2, hJ2⟩)))
  · skip
    refine st_q (ok_move (v := .tuple _) rfl ⟨rfl, rfl, rfl⟩) ?_
    refine st_q (ok_extract rfl rfl ⟨rfl, rfl, rfl⟩) ?_
    refine st_q (ok_extract rfl rfl ⟨rfl, rfl, rfl⟩) ?_
    refine st_q (ok_assign (v := .slice _ _ _) rfl ⟨rfl, rfl, rfl⟩) ?_
    refine st_q (ok_assign (v := .slice _ _ _) rfl ⟨rfl, rfl, rfl⟩) ?_
    refine o_nil ?_
    refine n_then ?_
    refine c_seq ?_
    refine c_seq ?_
    refine c_region (by kernel_rfl) ?_
    refine st_q (ok_move (v := .slice _ _ _) rfl ⟨rfl, rfl, rfl⟩) ?_
    refine st_q (ok_neq_nil (sl rfl) rfl rfl ⟨rfl, rfl, rfl⟩) ?_
    refine o_nil ?_
    refine n_then ?_
    refine c_cond_false rfl ?_
    refine c_skip ?_
    refine n_then ?_
    have hnoc : ¬ ∃ i, i < n ∧ TC R i i := by
      rintro ⟨i, hi, hti⟩
      exact acyclic_of hT hnd hall hSl hi (tc_congr (fun i hi x => (hSR i hi x).2) hRl hti hi)
    have hrec := hacy hnoc
    have hYh2 := hYh.trans hx12
    refine c_seq ?_
    obtain ⟨W, hW⟩ : ∃ W, W = (n + 63) / 64 := ⟨_, rfl⟩
    have hW0 : 0 < W := by omega
    have hW2 : W ≤ 2 := by omega
    have hnW : n ≤ 64 * W := by omega
    have hbig : n * W ≤ 80 * 2 := Nat.mul_le_mul hn hW2
    have hmul : (n : Int) * (W : Int) = ((n * W : Nat) : Int) := by rw [Int.natCast_mul]
    refine c_cut (fun E h' N' D => D = [] ∧ h' = h2 ∧ N' = N2 ∧ Fr E [(0, .func (.yield l) #[] #[]), (1, .pointer (some ⟨bp, 0, none⟩)), (3, .pointer (some ⟨b3, 0, none⟩)), (4, .slice (some ⟨bo, 0, none⟩) n co), (6, .int .i64 (n : Int)), (7, .int .i64 (W : Int))]) ?_ ?_
    · skip
      refine c_draw mixed [] 10 rfl [((0, 2), [((1, 1), [((2, 2), [((3, 2), [((4, 1), [((5, 2), [((6, 2), [((7, 2), [((8, 2), [((9, 2), ())])])])])])])])])])] (by kernel_rfl) (by kernel_rfl) ?_
      refine w_p rfl (fun _ _ => ok_fieldAddr (fld rfl) rfl ⟨rfl, rfl, rfl⟩) ?_
      refine w_r rfl (fun _ _ hExt => ok_load (ty rfl) rfl (hExt _ _ (hYh2 _ _ hp)) p0 ⟨rfl, rfl, rfl⟩) ?_
      refine w_p rfl (fun _ _ => ok_len (sl rfl) rfl ⟨rfl, rfl, rfl⟩) ?_
      refine w_p rfl (fun _ _ => ok_fieldAddr (fld rfl) rfl ⟨rfl, rfl, rfl⟩) ?_
      refine w_r rfl (fun _ _ hExt => ok_load (ty rfl) rfl (hExt _ _ (hYh2 _ _ hp)) p0 ⟨rfl, rfl, rfl⟩) ?_
      refine w_p rfl (fun _ _ => ok_len (sl rfl) rfl ⟨rfl, rfl, rfl⟩) ?_
      refine w_p rfl (fun _ _ => ok_add rfl rfl (by omega) (by omega) ⟨rfl, rfl, rfl⟩) ?_
      refine w_p rfl (fun _ _ => ok_quo rfl rfl (by omega) (by omega) (by omega) ⟨rfl, rfl, rfl⟩) ?_
      refine w_p rfl (fun _ _ => ok_assign (v := .int _ _) rfl ⟨rfl, rfl, rfl⟩) ?_
      refine w_p rfl (fun _ _ => ok_assign (v := .int _ _) rfl ⟨rfl, rfl, rfl⟩) ?_
      refine w_nil ?_
      refine n_then ⟨rfl, rfl, rfl, rfl, rfl, rfl, rfl, rfl, ?_, trivial⟩
      show Value.int .i64 (((n : Int) + 63) / 64) = _
      congr 1; omega
    rintro E h3 N3 D ⟨rfl, rfl, rfl, hE1⟩
    obtain ⟨E1, rfl⟩ := hE1.ex
    refine n_then ?_
    refine c_seq ?_
    refine c_cut (fun E h' _ D => D = [] ∧ ∃ bc r1 r2, r1 ≠ r2 ∧ r1 ≠ bc ∧ r2 ≠ bc ∧ h3 r1 = none ∧ h3 r2 = none ∧ h3 bc = none ∧ Ext h3 h' ∧ h' r1 = some (.cells (madeCells #[.int .u64 0] (n * W * 1)) 85 (0, 0)) ∧ h' r2 = some (.cells (madeCells #[.int .u64 0] (n * W * 1)) 85 (0, 0)) ∧ h' bc = some (.cells #[.int .i64 (W : Int), .slice (some ⟨r1, 0, none⟩) (n * W) (n * W), .slice (some ⟨r2, 0, none⟩) (n * W) (n * W)] 78 (0, 0)) ∧
        Fr E [(0, .func (.yield l) #[] #[]), (1, .pointer (some ⟨bp, 0, none⟩)), (3, .pointer (some ⟨b3, 0, none⟩)), (4, .slice (some ⟨bo, 0, none⟩) n co), (8, .pointer (some ⟨bc, 0, none⟩))]) ?_ ?_
    · skip
      refine c_draw mixed [0, 0, 0, 0, 1, 0, 0, 0, 1, 0, 1, 2] 12 rfl [((0, 2), [((1, 2), [((2, 2), [((3, 2), [((5, 2), [((6, 2), [((7, 2), [((4, 0), [((8, 0), [((9, 2), [((10, 0), [((11, 0), ())])])]), ((10, 0), [((8, 0), [((9, 2), [((11, 0), ())])])])]), ((8, 0), [((4, 0), [((9, 2), [((10, 0), [((11, 0), ())])])]), ((10, 0), [((4, 0), [((9, 2), [((11, 0), ())])])])]), ((10, 0), [((4, 0), [((8, 0), [((9, 2), [((11, 0), ())])])]), ((8, 0), [((4, 0), [((9, 2), [((11, 0), ())])])])])])])])])])])])] (by kernel_rfl) (by kernel_rfl) ?_
      refine w_p rfl (fun _ _ => ok_move (v := .int _ _) rfl ⟨rfl, rfl, rfl⟩) ?_
      refine w_p rfl (fun _ _ => ok_move (v := .int _ _) rfl ⟨rfl, rfl, rfl⟩) ?_
      refine w_p rfl (fun _ _ => ok_move (v := .int _ _) rfl ⟨rfl, rfl, rfl⟩) ?_
      refine w_p rfl (fun _ _ => ok_mul rfl rfl (by omega) (by omega) ⟨rfl, rfl, rfl⟩) ?_
      refine w_p rfl (fun _ _ => ok_move (v := .int _ _) rfl ⟨rfl, rfl, rfl⟩) ?_
      refine w_p rfl (fun _ _ => ok_move (v := .int _ _) rfl ⟨rfl, rfl, rfl⟩) ?_
      refine w_p rfl (fun _ _ => ok_mul rfl rfl (by omega) (by omega) ⟨rfl, rfl, rfl⟩) ?_
      refine w_cons ?_ (w_cons ?_ (w_cons ?_ (w_none)))
      · skip
        refine w_e rfl (ok_makeSlice (sl rfl) (ty rfl) rfl rfl (by omega) (by omega) (by omega) (by omega) (l' := (n * W)) (c' := (n * W)) (by omega) (by omega) (fun hN46 => ⟨.inr ⟨_, rfl, rfl⟩, ?_⟩))
        refine w_cons ?_ (w_cons ?_ (w_none))
        · skip
          refine w_e rfl (ok_makeSlice (sl rfl) (ty rfl) rfl rfl (by omega) (by omega) (by omega) (by omega) (l' := (n * W)) (c' := (n * W)) (by omega) (by omega) (fun hN50 => ⟨.inr ⟨_, rfl, rfl⟩, ?_⟩))
          refine w_p rfl (fun _ _ => ok_build rfl (v := .agg #[.int .i64 (W : Int), .slice (some ⟨N3, 0, none⟩) (n * W) (n * W), .slice (some ⟨N3 + 1, 0, none⟩) (n * W) (n * W)]) (fun _ => by kernel_rfl) ⟨rfl, rfl, rfl⟩) ?_
          refine w_e rfl (ok_alloc (ty rfl) rfl (fun hN8 => ⟨.inr ⟨_, rfl, rfl⟩, ?_⟩))
          refine w_e0 rfl (ok_storeL (ty rfl) rfl (v := .agg _) rfl rfl rfl rfl (by (repeat rw [hset_ne _ _ (by omega)]); exact hset_same _ _ _) (Nat.le_of_ble_eq_true rfl) ⟨trivial, ?_⟩)
          refine w_nil ?_
          have hf : ∀ b, N3 ≤ b → h3 b = none := (by first | exact hN46 | exact hN50 | exact hN8); refine n_then ⟨rfl, N3 + 1 + 1, N3, N3 + 1, by omega, by omega, by omega, hf _ (by omega), hf _ (by omega), hf _ (by omega), ((((Ext.refl h3).fresh (hf _ (by omega)) _).fresh (hf _ (by omega)) _).fresh (hf _ (by omega)) _).fresh (hf _ (by omega)) _, by (repeat rw [hset_ne _ _ (by omega)]); exact hset_same _ _ _, by (repeat rw [hset_ne _ _ (by omega)]); exact hset_same _ _ _, hset_same _ _ _, rfl, rfl, rfl, rfl, rfl, trivial⟩
        · skip
          refine w_e rfl (ok_alloc (ty rfl) rfl (fun hN8 => ⟨.inr ⟨_, rfl, rfl⟩, ?_⟩))
          refine w_e rfl (ok_makeSlice (sl rfl) (ty rfl) rfl rfl (by omega) (by omega) (by omega) (by omega) (l' := (n * W)) (c' := (n * W)) (by omega) (by omega) (fun hN50 => ⟨.inr ⟨_, rfl, rfl⟩, ?_⟩))
          refine w_p rfl (fun _ _ => ok_build rfl (v := .agg #[.int .i64 (W : Int), .slice (some ⟨N3, 0, none⟩) (n * W) (n * W), .slice (some ⟨N3 + 1 + 1, 0, none⟩) (n * W) (n * W)]) (fun _ => by kernel_rfl) ⟨rfl, rfl, rfl⟩) ?_
          refine w_e0 rfl (ok_storeL (ty rfl) rfl (v := .agg _) rfl rfl rfl rfl (by (repeat rw [hset_ne _ _ (by omega)]); exact hset_same _ _ _) (Nat.le_of_ble_eq_true rfl) ⟨trivial, ?_⟩)
          refine w_nil ?_
          have hf : ∀ b, N3 ≤ b → h3 b = none := (by first | exact hN46 | exact hN50 | exact hN8); refine n_then ⟨rfl, N3 + 1, N3, N3 + 1 + 1, by omega, by omega, by omega, hf _ (by omega), hf _ (by omega), hf _ (by omega), ((((Ext.refl h3).fresh (hf _ (by omega)) _).fresh (hf _ (by omega)) _).fresh (hf _ (by omega)) _).fresh (hf _ (by omega)) _, by (repeat rw [hset_ne _ _ (by omega)]); exact hset_same _ _ _, by (repeat rw [hset_ne _ _ (by omega)]); exact hset_same _ _ _, hset_same _ _ _, rfl, rfl, rfl, rfl, rfl, trivial⟩
      · skip
        refine w_e rfl (ok_makeSlice (sl rfl) (ty rfl) rfl rfl (by omega) (by omega) (by omega) (by omega) (l' := (n * W)) (c' := (n * W)) (by omega) (by omega) (fun hN50 => ⟨.inr ⟨_, rfl, rfl⟩, ?_⟩))
        refine w_cons ?_ (w_cons ?_ (w_none))
        · skip
          refine w_e rfl (ok_makeSlice (sl rfl) (ty rfl) rfl rfl (by omega) (by omega) (by omega) (by omega) (l' := (n * W)) (c' := (n * W)) (by omega) (by omega) (fun hN46 => ⟨.inr ⟨_, rfl, rfl⟩, ?_⟩))
          refine w_p rfl (fun _ _ => ok_build rfl (v := .agg #[.int .i64 (W : Int), .slice (some ⟨N3 + 1, 0, none⟩) (n * W) (n * W), .slice (some ⟨N3, 0, none⟩) (n * W) (n * W)]) (fun _ => by kernel_rfl) ⟨rfl, rfl, rfl⟩) ?_
          refine w_e rfl (ok_alloc (ty rfl) rfl (fun hN8 => ⟨.inr ⟨_, rfl, rfl⟩, ?_⟩))
          refine w_e0 rfl (ok_storeL (ty rfl) rfl (v := .agg _) rfl rfl rfl rfl (by (repeat rw [hset_ne _ _ (by omega)]); exact hset_same _ _ _) (Nat.le_of_ble_eq_true rfl) ⟨trivial, ?_⟩)
          refine w_nil ?_
          have hf : ∀ b, N3 ≤ b → h3 b = none := (by first | exact hN46 | exact hN50 | exact hN8); refine n_then ⟨rfl, N3 + 1 + 1, N3 + 1, N3, by omega, by omega, by omega, hf _ (by omega), hf _ (by omega), hf _ (by omega), ((((Ext.refl h3).fresh (hf _ (by omega)) _).fresh (hf _ (by omega)) _).fresh (hf _ (by omega)) _).fresh (hf _ (by omega)) _, by (repeat rw [hset_ne _ _ (by omega)]); exact hset_same _ _ _, by (repeat rw [hset_ne _ _ (by omega)]); exact hset_same _ _ _, hset_same _ _ _, rfl, rfl, rfl, rfl, rfl, trivial⟩
        · skip
          refine w_e rfl (ok_alloc (ty rfl) rfl (fun hN8 => ⟨.inr ⟨_, rfl, rfl⟩, ?_⟩))
          refine w_e rfl (ok_makeSlice (sl rfl) (ty rfl) rfl rfl (by omega) (by omega) (by omega) (by omega) (l' := (n * W)) (c' := (n * W)) (by omega) (by omega) (fun hN46 => ⟨.inr ⟨_, rfl, rfl⟩, ?_⟩))
          refine w_p rfl (fun _ _ => ok_build rfl (v := .agg #[.int .i64 (W : Int), .slice (some ⟨N3 + 1 + 1, 0, none⟩) (n * W) (n * W), .slice (some ⟨N3, 0, none⟩) (n * W) (n * W)]) (fun _ => by kernel_rfl) ⟨rfl, rfl, rfl⟩) ?_
          refine w_e0 rfl (ok_storeL (ty rfl) rfl (v := .agg _) rfl rfl rfl rfl (by (repeat rw [hset_ne _ _ (by omega)]); exact hset_same _ _ _) (Nat.le_of_ble_eq_true rfl) ⟨trivial, ?_⟩)
          refine w_nil ?_
          have hf : ∀ b, N3 ≤ b → h3 b = none := (by first | exact hN46 | exact hN50 | exact hN8); refine n_then ⟨rfl, N3 + 1, N3 + 1 + 1, N3, by omega, by omega, by omega, hf _ (by omega), hf _ (by omega), hf _ (by omega), ((((Ext.refl h3).fresh (hf _ (by omega)) _).fresh (hf _ (by omega)) _).fresh (hf _ (by omega)) _).fresh (hf _ (by omega)) _, by (repeat rw [hset_ne _ _ (by omega)]); exact hset_same _ _ _, by (repeat rw [hset_ne _ _ (by omega)]); exact hset_same _ _ _, hset_same _ _ _, rfl, rfl, rfl, rfl, rfl, trivial⟩
      · skip
        refine w_e rfl (ok_alloc (ty rfl) rfl (fun hN8 => ⟨.inr ⟨_, rfl, rfl⟩, ?_⟩))
        refine w_cons ?_ (w_cons ?_ (w_none))
        · skip
          refine w_e rfl (ok_makeSlice (sl rfl) (ty rfl) rfl rfl (by omega) (by omega) (by omega) (by omega) (l' := (n * W)) (c' := (n * W)) (by omega) (by omega) (fun hN46 => ⟨.inr ⟨_, rfl, rfl⟩, ?_⟩))
          refine w_e rfl (ok_makeSlice (sl rfl) (ty rfl) rfl rfl (by omega) (by omega) (by omega) (by omega) (l' := (n * W)) (c' := (n * W)) (by omega) (by omega) (fun hN50 => ⟨.inr ⟨_, rfl, rfl⟩, ?_⟩))
          refine w_p rfl (fun _ _ => ok_build rfl (v := .agg #[.int .i64 (W : Int), .slice (some ⟨N3 + 1, 0, none⟩) (n * W) (n * W), .slice (some ⟨N3 + 1 + 1, 0, none⟩) (n * W) (n * W)]) (fun _ => by kernel_rfl) ⟨rfl, rfl, rfl⟩) ?_
          refine w_e0 rfl (ok_storeL (ty rfl) rfl (v := .agg _) rfl rfl rfl rfl (by (repeat rw [hset_ne _ _ (by omega)]); exact hset_same _ _ _) (Nat.le_of_ble_eq_true rfl) ⟨trivial, ?_⟩)
          refine w_nil ?_
          have hf : ∀ b, N3 ≤ b → h3 b = none := (by first | exact hN46 | exact hN50 | exact hN8); refine n_then ⟨rfl, N3, N3 + 1, N3 + 1 + 1, by omega, by omega, by omega, hf _ (by omega), hf _ (by omega), hf _ (by omega), ((((Ext.refl h3).fresh (hf _ (by omega)) _).fresh (hf _ (by omega)) _).fresh (hf _ (by omega)) _).fresh (hf _ (by omega)) _, by (repeat rw [hset_ne _ _ (by omega)]); exact hset_same _ _ _, by (repeat rw [hset_ne _ _ (by omega)]); exact hset_same _ _ _, hset_same _ _ _, rfl, rfl, rfl, rfl, rfl, trivial⟩
        · skip
          refine w_e rfl (ok_makeSlice (sl rfl) (ty rfl) rfl rfl (by omega) (by omega) (by omega) (by omega) (l' := (n * W)) (c' := (n * W)) (by omega) (by omega) (fun hN50 => ⟨.inr ⟨_, rfl, rfl⟩, ?_⟩))
          refine w_e rfl (ok_makeSlice (sl rfl) (ty rfl) rfl rfl (by omega) (by omega) (by omega) (by omega) (l' := (n * W)) (c' := (n * W)) (by omega) (by omega) (fun hN46 => ⟨.inr ⟨_, rfl, rfl⟩, ?_⟩))
          refine w_p rfl (fun _ _ => ok_build rfl (v := .agg #[.int .i64 (W : Int), .slice (some ⟨N3 + 1 + 1, 0, none⟩) (n * W) (n * W), .slice (some ⟨N3 + 1, 0, none⟩) (n * W) (n * W)]) (fun _ => by kernel_rfl) ⟨rfl, rfl, rfl⟩) ?_
          refine w_e0 rfl (ok_storeL (ty rfl) rfl (v := .agg _) rfl rfl rfl rfl (by (repeat rw [hset_ne _ _ (by omega)]); exact hset_same _ _ _) (Nat.le_of_ble_eq_true rfl) ⟨trivial, ?_⟩)
          refine w_nil ?_
          have hf : ∀ b, N3 ≤ b → h3 b = none := (by first | exact hN46 | exact hN50 | exact hN8); refine n_then ⟨rfl, N3, N3 + 1 + 1, N3 + 1, by omega, by omega, by omega, hf _ (by omega), hf _ (by omega), hf _ (by omega), ((((Ext.refl h3).fresh (hf _ (by omega)) _).fresh (hf _ (by omega)) _).fresh (hf _ (by omega)) _).fresh (hf _ (by omega)) _, by (repeat rw [hset_ne _ _ (by omega)]); exact hset_same _ _ _, by (repeat rw [hset_ne _ _ (by omega)]); exact hset_same _ _ _, hset_same _ _ _, rfl, rfl, rfl, rfl, rfl, trivial⟩
    rintro E h4 N4 D ⟨rfl, bc, r1, r2, n12, n1c, n2c, f1, f2, fc, hx4, gr1, gr2, gbc, hE2⟩
    obtain ⟨E2, rfl⟩ := hE2.ex
    refine n_then ?_
    have hSep := sep3 n12 n1c n2c f1 f2 hx4 gr1 gr2 gbc
    have hXc : Ext h3 (hset h3 bc (.cells #[.int .i64 (W : Int), .slice (some ⟨r1, 0, none⟩) (n * W) (n * W), .slice (some ⟨r2, 0, none⟩) (n * W) (n * W)] 78 (0, 0))) := (Ext.refl h3).fresh fc _
    have hmade : (madeCells #[Value.int .u64 0] (n * W * 1)).size = n * W := made_size
    have hwd : Wd (madeCells #[Value.int .u64 0] (n * W * 1)) (fun _ => 0) := fun k hk => made_get k (by rwa [hmade] at hk)
    refine c_seq ?_
    refine c_region (by kernel_rfl) ?_
    refine st_q (ok_loadAgg (ty rfl) rfl (hx4 _ _ (hx2 _ _ g3)) (Nat.le_of_ble_eq_true rfl) rfl ⟨rfl, rfl, rfl⟩) ?_
    refine st_q (ok_move (v := .slice _ _ _) rfl ⟨rfl, rfl, rfl⟩) ?_
    refine st (ok_call rfl ent12 (fill_ok (bc := bc) hSep (hset_same _ _ _) ((hRw.ext hx2).ext hXc) hSl hSn (hXc _ _ gbo) htk hol hnd hall hlt hT (by omega) hW0 (by omega) hnW ⟨_, (hset_ne _ _ n12).trans (hset_same _ _ _), hmade, hwd⟩ ⟨_, hset_same _ _ _, hmade, hwd⟩ n12) rfl ?_)
    rintro _ h5 N5 ⟨rfl, m5, F1, F2, hS5, M1, M2, hF1, hF2⟩
    refine o_nil ?_
    refine n_then ?_
    have hx5 : Ext h h5 := hx12.trans (hXc.trans hS5.oth)
    obtain ⟨X5, hXX5, hnew5, hJ5⟩ := jx _ _ _ _ _ N5 h0 hx5
    have hYX := hX.trans hXX5
    have kbc : X5 bc = some (.cells #[.int .i64 (W : Int), .slice (some ⟨r1, 0, none⟩) (n * W) (n * W), .slice (some ⟨r2, 0, none⟩) (n * W) (n * W)] 78 (0, 0)) := hnew5 _ _ (hx12.back fc) (hS5.oth _ _ (hset_same _ _ _))
    have k1 : Mat X5 r1 n W F1 := by obtain ⟨c, c1, c2⟩ := M1; exact ⟨c, hnew5 _ _ (hx12.back f1) (hS5.own _ _ c1), c2⟩
    have k2 : Mat X5 r2 n W F2 := by obtain ⟨c, c1, c2⟩ := M2; exact ⟨c, hnew5 _ _ (hx12.back f2) (hS5.own _ _ c1), c2⟩
    have hF1 : ∀ i x, i < n → x < n → (bit W F1 i x = true ↔ RC R i x) := fun i x hi hx => (hF1 i x hi hx).trans (rc_congr hSR hSl hi)
    have hF2 : ∀ j x, j < n → x < n → (bit W F2 j x = true ↔ RC R x j) := fun j x hj hx => (hF2 j x hj hx).trans (rc_congr hSR hSl hx)
    clear hSep hXc hmade hwd hS5 M1 M2 hnew5 hx5 h0 gr1 gr2 gbc hx4 f1 f2 fc hx12 hYh2 hYh hXX5
    refine c_seq ?_
    refine c_region (by kernel_rfl) ?_
    refine st_q (ok_makeFunc rfl rfl ⟨rfl, rfl, rfl⟩) ?_
    refine st_q (ok_assign (v := .func _ _ _) rfl ⟨rfl, rfl, rfl⟩) ?_
    refine o_nil ?_
    refine n_then ?_
    refine c_seq ?_
    refine c_region (by kernel_rfl) ?_
    refine st_q (ok_fieldAddr (fld rfl) rfl ⟨rfl, rfl, rfl⟩) ?_
    refine st_q (ok_load (ty rfl) rfl ((hYX.trans (j1 _ _ _ _ hJ5)) _ _ hp) p2 ⟨rfl, rfl, rfl⟩) ?_
    refine st_q (ok_len (sl rfl) rfl ⟨rfl, rfl, rfl⟩) ?_
    refine st_q (ok_move (v := .int _ _) rfl ⟨rfl, rfl, rfl⟩) ?_
    refine o_nil ?_
    refine n_then ?_
    refine c_block ?_
    refine c_loop (fun k E h' N' D => D = [] ∧ k ≤ gl.length ∧ (∃ X, Ext X5 X ∧ J (allTo gl B (gl.length - k)) X h' N') ∧ Fr E [(0, .func (.yield l) #[] #[]), (1, .pointer (some ⟨bp, 0, none⟩)), (9, .func (.func 13) #[] #[.pointer (some ⟨bc, 0, none⟩)]), (58, .int .i64 (gl.length : Int)), (59, .int .i64 ((gl.length - k : Nat) : Int))]) (k := gl.length)
      ⟨rfl, Nat.le_refl _, ⟨X5, Ext.refl _, by rw [Nat.sub_self]; exact hJ5⟩, rfl, rfl, rfl, rfl, by rw [Nat.sub_self]; rfl, trivial⟩ ?_
    clear hJ5
    rintro k E h6 N6 D ⟨rfl, hk, ⟨X6, hX56, hJ6⟩, hE3⟩
    obtain ⟨E3, rfl⟩ := hE3.ex
    refine c_seq ?_
    refine c_region (by kernel_rfl) ?_
    refine st_q (ok_lss rfl rfl ⟨rfl, rfl, rfl⟩) ?_
    refine o_nil ?_
    refine n_then ?_
    refine c_seq ?_
    refine c_cond_prop rfl (fun hc => ?_) (fun hc => ?_)
    · skip
      generalize hq : gl.length - k = q at *
      have hql : q < gl.length := by omega
      have hgq := List.getElem?_eq_getElem hql
      generalize gl[q] = g at *
      have hgm := List.mem_of_getElem? hgq
      have gok := hok g hgm
      obtain ⟨bg, gc, fg, rfl, ygc, bm, cm, ms, hG, ybm, hms⟩ := hgs q g hgq
      have hX6h := j1 _ _ _ _ hJ6
      have hYh6 := (hYX.trans hX56).trans hX6h
      have hgz := hG.sz
      refine c_skip ?_
      refine n_then ?_
      refine c_seq ?_
      refine c_block ?_
      refine c_seq ?_
      refine c_region (by kernel_rfl) ?_
      refine st_q (ok_move (v := .int _ _) rfl ⟨rfl, rfl, rfl⟩) ?_
      refine st_q (ok_assign (v := .int _ _) rfl ⟨rfl, rfl, rfl⟩) ?_
      refine o_nil ?_
      refine n_then ?_
      refine c_seq ?_
      refine c_region (by kernel_rfl) ?_
      refine st_q (ok_fieldAddr (fld rfl) rfl ⟨rfl, rfl, rfl⟩) ?_
      refine st_q (ok_load (ty rfl) rfl (hYh6 _ _ hp) p2 ⟨rfl, rfl, rfl⟩) ?_
      refine st_q (ok_move (v := .int _ _) rfl ⟨rfl, rfl, rfl⟩) ?_
      refine st_q (ok_indexAddr (sl rfl) (ty rfl) rfl rfl (by omega) (by omega) (off := (q * 14)) (by omega) ⟨rfl, rfl, rfl⟩) ?_
      refine st_q (ok_assign (v := .pointer _) rfl ⟨rfl, rfl, rfl⟩) ?_
      refine o_nil ?_
      refine n_then ?_
      refine c_seq ?_
      have hin : ∀ x, x < n → (x + 1) * W ≤ n * W := fun x hx => by rw [Nat.succ_mul]; exact row_in hx
      refine c_region (by kernel_rfl) ?_
      refine st_q (ok_move (v := .func _ _ _) rfl ⟨rfl, rfl, rfl⟩) ?_
      refine st_q (ok_move (v := .pointer _) rfl ⟨rfl, rfl, rfl⟩) ?_
      refine st_q (ok_nilCheck_ptr rfl ⟨rfl, rfl, rfl⟩) ?_
      refine st_q (ok_fieldAddr (fld rfl) rfl ⟨rfl, rfl, rfl⟩) ?_
      refine st_q (ok_loadAgg (ty rfl) rfl (hYh6 _ _ ygc) (by omega) (take4 hG.g0 hG.g1 hG.g2 hG.g3) ⟨rfl, rfl, rfl⟩) ?_
      refine st (ok_call rfl ent13 (lookup2_ok ((hX56.trans hX6h) _ _ kbc) rfl rfl rfl (hin _ gok.b0) (hin _ gok.b1) hW0 (by omega)) rfl ?_); rintro _ h7 N7 ⟨hx7, ra, xa, ya, fa, ca, rfl, hka⟩
      refine st_q (ok_move (v := .tuple _) rfl ⟨rfl, rfl, rfl⟩) ?_
      refine st_q (ok_extract rfl rfl ⟨rfl, rfl, rfl⟩) ?_
      refine st_q (ok_extract rfl rfl ⟨rfl, rfl, rfl⟩) ?_
      refine st (ok_alloc (ty rfl) rfl (fun hN13 => ?_))
      refine st_q (ok_assign (v := .slice _ _ _) rfl ⟨rfl, rfl, rfl⟩) ?_
      refine st0 (ok_storeL (ty rfl) rfl (v := .agg _) rfl rfl rfl rfl (hset_same _ _ _) (Nat.le_of_ble_eq_true rfl) ?_)
      refine o_nil ?_
      refine n_then ?_
      have n7 : h6 N7 = none := hx7.back (hN13 _ (Nat.le_refl _))
      refine c_heap (fun h8 _ => Ext h6 h8 ∧ h8 N7 = some (.cells #[.int .i64 (ya : Int), .bool fa] 46 (0, 0))) ⟨(hx7.fresh n7 _).fresh n7 _, hset_same _ _ _⟩ ?_
      clear hN13 hx7
      rintro h8 N8 ⟨hx8, g13⟩
      refine c_seq ?_
      refine c_region (by kernel_rfl) ?_
      refine st_q (ok_move (v := .func _ _ _) rfl ⟨rfl, rfl, rfl⟩) ?_
      refine st_q (ok_move (v := .pointer _) rfl ⟨rfl, rfl, rfl⟩) ?_
      refine st_q (ok_nilCheck_ptr rfl ⟨rfl, rfl, rfl⟩) ?_
      refine st_q (ok_fieldAddr (fld rfl) rfl ⟨rfl, rfl, rfl⟩) ?_
      refine st_q (ok_loadAgg (ty rfl) rfl (hx8 _ _ (hYh6 _ _ ygc)) (by omega) (take4 hG.g4 hG.g5 hG.g6 hG.g7) ⟨rfl, rfl, rfl⟩) ?_
      refine st (ok_call rfl ent13 (lookup2_ok (hx8 _ _ ((hX56.trans hX6h) _ _ kbc)) rfl rfl rfl (hin _ gok.b2) (hin _ gok.b3) hW0 (by omega)) rfl ?_); rintro _ h9 N9 ⟨hx9, rb, xb, yb, fb, cb, rfl, hkb⟩
      refine st_q (ok_move (v := .tuple _) rfl ⟨rfl, rfl, rfl⟩) ?_
      refine st_q (ok_extract rfl rfl ⟨rfl, rfl, rfl⟩) ?_
      refine st_q (ok_extract rfl rfl ⟨rfl, rfl, rfl⟩) ?_
      refine st (ok_alloc (ty rfl) rfl (fun hN15 => ?_))
      refine st_q (ok_assign (v := .slice _ _ _) rfl ⟨rfl, rfl, rfl⟩) ?_
      refine st0 (ok_storeL (ty rfl) rfl (v := .agg _) rfl rfl rfl rfl (hset_same _ _ _) (Nat.le_of_ble_eq_true rfl) ?_)
      refine o_nil ?_
      refine n_then ?_
      have n9 : h6 N9 = none := hx8.back (hx9.back (hN15 _ (Nat.le_refl _)))
      have n9' : h8 N9 = none := hx9.back (hN15 _ (Nat.le_refl _))
      refine c_heap (fun h10 _ => Ext h6 h10 ∧ h10 N7 = some (.cells #[.int .i64 (ya : Int), .bool fa] 46 (0, 0)) ∧ h10 N9 = some (.cells #[.int .i64 (yb : Int), .bool fb] 46 (0, 0))) ⟨((hx8.trans hx9).fresh n9 _).fresh n9 _, ((hx9.fresh n9' _).fresh n9' _) _ _ g13, hset_same _ _ _⟩ ?_
      clear hN15 hx9 hx8 g13 n9'
      rintro h10 N10 ⟨hx10, g13, g15⟩
      obtain ⟨X7, hX67, hnew7, hJ7⟩ := jx _ _ _ _ _ N10 hJ6 hx10
      have y13 := hnew7 _ _ n7 g13
      have y15 := hnew7 _ _ n9 g15
      have hX57 := hX56.trans hX67
      have hY7 := hYX.trans hX57
      obtain ⟨Fa, hMa, hxa, hba⟩ := look_bit hka (k1.ext hX57) (k2.ext hX57) hF1 hF2 hB gok.b0 gok.b1 gok.fx
      obtain ⟨Fb, hMb, hxb, hbb⟩ := look_bit hkb (k1.ext hX57) (k2.ext hX57) hF1 hF2 hB gok.b2 gok.b3 gok.ex
      obtain ⟨csa, sa1, sa2, sa3⟩ := hMa
      obtain ⟨csb, sb1, sb2, sb3⟩ := hMb
      have hna := row_in (W := W) hxa
      have hnb := row_in (W := W) hxb
      have hya : ya < n := by
        rcases hka with ⟨_, _, _, rfl, _⟩ | ⟨_, _, _, rfl, _⟩
        · exact gok.b0
        · exact gok.b1
      have hyb : yb < n := by
        rcases hkb with ⟨_, _, _, rfl, _⟩ | ⟨_, _, _, rfl, _⟩
        · exact gok.b2
        · exact gok.b3
      have hml := gok.ml
      clear hJ6 hx10 hnew7 g13 g15 n7 n9 hX6h hYh6
      refine c_seq ?_
      refine c_region (by kernel_rfl) ?_
      refine st_q (ok_move (v := .pointer _) rfl ⟨rfl, rfl, rfl⟩) ?_
      refine st_q (ok_nilCheck_ptr rfl ⟨rfl, rfl, rfl⟩) ?_
      refine st_q (ok_fieldAddr (fld rfl) rfl ⟨rfl, rfl, rfl⟩) ?_
      refine st_q (ok_load (ty rfl) rfl ((hY7.trans (j1 _ _ _ _ hJ7)) _ _ ygc) hG.g8 ⟨rfl, rfl, rfl⟩) ?_
      refine st_q (ok_len (sl rfl) rfl ⟨rfl, rfl, rfl⟩) ?_
      refine st_q (ok_move (v := .int _ _) rfl ⟨rfl, rfl, rfl⟩) ?_
      refine o_nil ?_
      refine n_then ?_
      refine c_block ?_
      refine c_loop (fun k' E h' N' D => D = [] ∧ k' ≤ g.ms.length ∧ (∃ X, Ext X7 X ∧ J (allTo gl B q ++ g.upto B (g.ms.length - k')) X h' N') ∧ Fr E [(0, .func (.yield l) #[] #[]), (1, .pointer (some ⟨bp, 0, none⟩)), (9, .func (.func 13) #[] #[.pointer (some ⟨bc, 0, none⟩)]), (11, .pointer (some ⟨bg, q * 14, none⟩)), (12, .slice (some ⟨ra, xa * W, none⟩) W ca), (13, .pointer (some ⟨N7, 0, none⟩)), (14, .slice (some ⟨rb, xb * W, none⟩) W cb), (15, .pointer (some ⟨N9, 0, none⟩)), (58, .int .i64 (gl.length : Int)), (59, .int .i64 (q : Int)), (87, .slice (some ⟨bm, 0, none⟩) g.ms.length cm), (88, .int .i64 (g.ms.length : Int)), (89, .int .i64 ((g.ms.length - k' : Nat) : Int))]) (k := g.ms.length)
        ⟨rfl, Nat.le_refl _, ⟨X7, Ext.refl _, by rw [Nat.sub_self]; show J (allTo gl B q ++ []) _ _ _; rw [List.append_nil]; exact hJ7⟩, rfl, rfl, rfl, rfl, rfl, rfl, rfl, rfl, rfl, rfl, rfl, rfl, by rw [Nat.sub_self]; rfl, trivial⟩ ?_
      clear hJ7
      rintro k' E h11 N11 D ⟨rfl, hk', ⟨X8, hX78, hJ8⟩, hE4⟩
      obtain ⟨E4, rfl⟩ := hE4.ex
      refine c_seq ?_
      refine c_region (by kernel_rfl) ?_
      refine st_q (ok_lss rfl rfl ⟨rfl, rfl, rfl⟩) ?_
      refine o_nil ?_
      refine n_then ?_
      refine c_seq ?_
      refine c_cond_prop rfl (fun hc2 => ?_) (fun hc2 => ?_)
      · skip
        generalize hp2 : g.ms.length - k' = p at *
        have hpl : p < g.ms.length := by omega
        have hgp := List.getElem?_eq_getElem hpl
        have hgd : g.ms.getD p 0 = g.ms[p] := by rw [List.getD_eq_getElem?_getD, hgp]; rfl
        generalize g.ms[p] = mm at *
        have hmm := List.mem_of_getElem? hgp
        have hmn := gok.mb mm hmm
        obtain ⟨ha1, ha2⟩ := hba mm (gok.m0 mm hmm) (gok.m1 mm hmm)
        obtain ⟨hb1, hb2⟩ := hbb mm (gok.m2 mm hmm) (gok.m3 mm hmm)
        have hX8h := hX78.trans (j1 _ _ _ _ hJ8)
        have hY8 := hY7.trans hX8h
        refine c_skip ?_
        refine n_then ?_
        refine c_seq ?_
        refine c_block ?_
        refine c_seq ?_
        refine c_region (by kernel_rfl) ?_
        refine st_q (ok_move (v := .int _ _) rfl ⟨rfl, rfl, rfl⟩) ?_
        refine st_q (ok_indexAddr (sl rfl) (ty rfl) rfl rfl (by omega) (by omega) (off := p) (by omega) ⟨rfl, rfl, rfl⟩) ?_
        refine st_q (ok_load (ty rfl) rfl (hY8 _ _ ybm) (hms p mm hgp) ⟨rfl, rfl, rfl⟩) ?_
        refine st_q (ok_assign (v := .int _ _) rfl ⟨rfl, rfl, rfl⟩) ?_
        refine st_q (ok_assign (v := .int _ _) rfl ⟨rfl, rfl, rfl⟩) ?_
        refine o_nil ?_
        refine n_then ?_
        refine c_seq ?_
        refine c_cut (fun E h' N' D => D = [] ∧ Ext h11 h' ∧ Fr E [(0, .func (.yield l) #[] #[]), (1, .pointer (some ⟨bp, 0, none⟩)), (9, .func (.func 13) #[] #[.pointer (some ⟨bc, 0, none⟩)]), (11, .pointer (some ⟨bg, q * 14, none⟩)), (12, .slice (some ⟨ra, xa * W, none⟩) W ca), (13, .pointer (some ⟨N7, 0, none⟩)), (14, .slice (some ⟨rb, xb * W, none⟩) W cb), (15, .pointer (some ⟨N9, 0, none⟩)), (16, .int .i64 (p : Int)), (17, .int .i64 (mm : Int)), (18, .int .i64 ((atN fa ya mm : Nat) : Int)), (19, .int .i64 ((atN fb yb mm : Nat) : Int)), (58, .int .i64 (gl.length : Int)), (59, .int .i64 (q : Int)), (87, .slice (some ⟨bm, 0, none⟩) g.ms.length cm), (88, .int .i64 (g.ms.length : Int)), (89, .int .i64 (p : Int))]) ?_ ?_
        · skip
          refine c_draw mixed [0, 0, 1, 0, 0, 1] 8 rfl [((0, 1), [((1, 2), [((3, 1), [((4, 2), [((2, 0), [((5, 0), [((6, 2), [((7, 2), ())])])])])])])])] (by kernel_rfl) (by kernel_rfl) ?_
          refine w_r rfl (fun _ _ hExt => ok_loadAgg (ty rfl) rfl (hExt _ _ (hX8h _ _ y13)) (Nat.le_of_ble_eq_true rfl) rfl ⟨rfl, rfl, rfl⟩) ?_
          refine w_p rfl (fun _ _ => ok_move (v := .int _ _) rfl ⟨rfl, rfl, rfl⟩) ?_
          refine w_r rfl (fun _ _ hExt => ok_loadAgg (ty rfl) rfl (hExt _ _ (hX8h _ _ y15)) (Nat.le_of_ble_eq_true rfl) rfl ⟨rfl, rfl, rfl⟩) ?_
          refine w_p rfl (fun _ _ => ok_move (v := .int _ _) rfl ⟨rfl, rfl, rfl⟩) ?_
          refine w_e rfl (ok_call rfl ent16 (at_ok (by omega) (by omega)) rfl ?_)
          rintro _ h2 N2 ⟨rfl, rfl, rfl, hN96⟩
          refine ⟨.inr ⟨_, rfl, rfl⟩, ?_⟩
          refine w_e rfl (ok_call rfl ent16 (at_ok (by omega) (by omega)) rfl ?_)
          rintro _ h2 N2 ⟨rfl, rfl, rfl, hN99⟩
          refine ⟨.inr ⟨_, rfl, rfl⟩, ?_⟩
          refine w_p rfl (fun _ _ => ok_assign (v := .int _ _) rfl ⟨rfl, rfl, rfl⟩) ?_
          refine w_p rfl (fun _ _ => ok_assign (v := .int _ _) rfl ⟨rfl, rfl, rfl⟩) ?_
          refine w_nil ?_
          exact n_then ⟨rfl, (Ext.push hN96 _).trans (Ext.push hN99 _), rfl, rfl, rfl, rfl, rfl, rfl, rfl, rfl, rfl, rfl, rfl, rfl, rfl, rfl, rfl, rfl, rfl, trivial⟩
        rintro E h12 N12 D ⟨rfl, hx12, hE5⟩
        obtain ⟨E5, rfl⟩ := hE5.ex
        obtain ⟨X9, hX89, _, hJ9⟩ := jx _ _ _ _ _ N12 hJ8 hx12
        have hX9h := (hX78.trans hX89).trans (j1 _ _ _ _ hJ9)
        have hX79 := hX78.trans hX89
        have hY9 := hY7.trans hX9h
        clear hJ8 hX8h hY8
        refine n_then ?_
        refine c_seq ?_
        have da : atN fa ya mm / 64 < W := by omega
        have db : atN fb yb mm / 64 < W := by omega
        have hza : xa * W + atN fa ya mm / 64 < csa.size := by omega
        have hzb : xb * W + atN fb yb mm / 64 < csb.size := by omega
        have hone := g.one_len B p
        refine c_cut (fun E h' N' D => D = [] ∧ h' = h12 ∧ N' = N12 ∧ Fr E [(0, .func (.yield l) #[] #[]), (1, .pointer (some ⟨bp, 0, none⟩)), (9, .func (.func 13) #[] #[.pointer (some ⟨bc, 0, none⟩)]), (11, .pointer (some ⟨bg, q * 14, none⟩)), (12, .slice (some ⟨ra, xa * W, none⟩) W ca), (13, .pointer (some ⟨N7, 0, none⟩)), (14, .slice (some ⟨rb, xb * W, none⟩) W cb), (15, .pointer (some ⟨N9, 0, none⟩)), (16, .int .i64 (p : Int)), (17, .int .i64 (mm : Int)), (20, .bool (g.holds B mm)), (58, .int .i64 (gl.length : Int)), (59, .int .i64 (q : Int)), (87, .slice (some ⟨bm, 0, none⟩) g.ms.length cm), (88, .int .i64 (g.ms.length : Int)), (89, .int .i64 (p : Int))]) ?_ ?_
        · cases hBa : B (atN g.f0 g.x0 mm) (atN g.f1 g.x1 mm) with
          | true =>
            rw [hBa] at ha2
            have hne : and64 (Fa (xa * W + atN fa ya mm / 64)) (shl64 1 ((atN fa ya mm % 64 : Nat) : Int)) ≠ 0 := fun e => by
              have := (and_zero _ (by omega)).1 e
              unfold bit at ha2
              rw [ha2] at this; cases this
            refine c_draw mixed [] 23 rfl [((0, 2), [((1, 2), [((2, 2), [((3, 2), [((4, 1), [((5, 2), [((6, 2), [((7, 2), [((8, 2), [((9, 2), [((10, 2), [((11, 2), [((12, 2), [((13, 2), [((14, 2), [((15, 1), [((16, 2), [((17, 2), [((18, 2), [((19, 2), [((20, 2), [((21, 2), [((22, 2), ())])])])])])])])])])])])])])])])])])])])])])])] (by kernel_rfl) (by kernel_rfl) ?_
            refine w_p rfl (fun _ _ => ok_move (v := .slice _ _ _) rfl ⟨rfl, rfl, rfl⟩) ?_
            refine w_p rfl (fun _ _ => ok_move (v := .int _ _) rfl ⟨rfl, rfl, rfl⟩) ?_
            refine w_p rfl (fun _ _ => ok_quo rfl rfl (by omega) (by omega) (by omega) ⟨rfl, rfl, rfl⟩) ?_
            refine w_p rfl (fun _ _ => ok_indexAddr (sl rfl) (ty rfl) rfl rfl (by omega) (by omega) (off := (xa * W + atN fa ya mm / 64)) (by omega) ⟨rfl, rfl, rfl⟩) ?_
            refine w_r rfl (fun _ _ hExt => ok_load (ty rfl) rfl (hExt _ _ (hX9h _ _ sa1)) (sa3 _ hza) ⟨rfl, rfl, rfl⟩) ?_
            refine w_p rfl (fun _ _ => ok_move (v := .int _ _) rfl ⟨rfl, rfl, rfl⟩) ?_
            refine w_p rfl (fun _ _ => ok_rem rfl rfl (by omega) (by omega) ⟨rfl, rfl, rfl⟩) ?_
            refine w_p rfl (fun _ _ => ok_shl rfl rfl (by omega) ⟨rfl, rfl, rfl⟩) ?_
            refine w_p rfl (fun _ _ => ok_and rfl rfl ⟨rfl, rfl, rfl⟩) ?_
            refine w_p rfl (fun _ _ => ok_neq_t rfl rfl ((hne)) ⟨rfl, rfl, rfl⟩) ?_
            refine w_p rfl (fun _ _ => ok_move (v := .bool _) rfl ⟨rfl, rfl, rfl⟩) ?_
            refine w_s rfl rfl (by decide) ?_
            refine w_s rfl rfl (by decide) ?_
            refine w_s rfl rfl (by decide) ?_
            refine w_s rfl rfl (by decide) ?_
            refine w_s rfl rfl (by decide) ?_
            refine w_s rfl rfl (by decide) ?_
            refine w_s rfl rfl (by decide) ?_
            refine w_s rfl rfl (by decide) ?_
            refine w_s rfl rfl (by decide) ?_
            refine w_s rfl rfl (by decide) ?_
            refine w_p rfl (fun _ _ => ok_pick_true rfl rfl ⟨rfl, rfl, rfl⟩) ?_
            refine w_p rfl (fun _ _ => ok_assign (v := .bool _) rfl ⟨rfl, rfl, rfl⟩) ?_
            refine w_nil ?_
            refine n_then ⟨rfl, rfl, rfl, rfl, rfl, rfl, rfl, rfl, rfl, rfl, rfl, rfl, rfl, ?_, rfl, rfl, rfl, rfl, rfl, trivial⟩
            show Value.bool true = _
            rw [Grp.holds, hBa]; rfl
          | false =>
            rw [hBa] at ha2
            have heq : and64 (Fa (xa * W + atN fa ya mm / 64)) (shl64 1 ((atN fa ya mm % 64 : Nat) : Int)) = 0 := (and_zero _ (by omega)).2 ha2
            refine c_draw mixed [] 23 rfl [((0, 2), [((1, 2), [((2, 2), [((3, 2), [((4, 1), [((5, 2), [((6, 2), [((7, 2), [((8, 2), [((9, 2), [((10, 2), [((11, 2), [((12, 2), [((13, 2), [((14, 2), [((15, 1), [((16, 2), [((17, 2), [((18, 2), [((19, 2), [((20, 2), [((21, 2), [((22, 2), ())])])])])])])])])])])])])])])])])])])])])])])] (by kernel_rfl) (by kernel_rfl) ?_
            refine w_p rfl (fun _ _ => ok_move (v := .slice _ _ _) rfl ⟨rfl, rfl, rfl⟩) ?_
            refine w_p rfl (fun _ _ => ok_move (v := .int _ _) rfl ⟨rfl, rfl, rfl⟩) ?_
            refine w_p rfl (fun _ _ => ok_quo rfl rfl (by omega) (by omega) (by omega) ⟨rfl, rfl, rfl⟩) ?_
            refine w_p rfl (fun _ _ => ok_indexAddr (sl rfl) (ty rfl) rfl rfl (by omega) (by omega) (off := (xa * W + atN fa ya mm / 64)) (by omega) ⟨rfl, rfl, rfl⟩) ?_
            refine w_r rfl (fun _ _ hExt => ok_load (ty rfl) rfl (hExt _ _ (hX9h _ _ sa1)) (sa3 _ hza) ⟨rfl, rfl, rfl⟩) ?_
            refine w_p rfl (fun _ _ => ok_move (v := .int _ _) rfl ⟨rfl, rfl, rfl⟩) ?_
            refine w_p rfl (fun _ _ => ok_rem rfl rfl (by omega) (by omega) ⟨rfl, rfl, rfl⟩) ?_
            refine w_p rfl (fun _ _ => ok_shl rfl rfl (by omega) ⟨rfl, rfl, rfl⟩) ?_
            refine w_p rfl (fun _ _ => ok_and rfl rfl ⟨rfl, rfl, rfl⟩) ?_
            refine w_p rfl (fun _ _ => ok_neq_f rfl rfl ((fun hh => hh heq)) ⟨rfl, rfl, rfl⟩) ?_
            refine w_p rfl (fun _ _ => ok_move (v := .bool _) rfl ⟨rfl, rfl, rfl⟩) ?_
            refine w_pg rfl rfl (fun _ _ => ok_move (v := .slice _ _ _) rfl ⟨rfl, rfl, rfl⟩) ?_
            refine w_pg rfl rfl (fun _ _ => ok_move (v := .int _ _) rfl ⟨rfl, rfl, rfl⟩) ?_
            refine w_pg rfl rfl (fun _ _ => ok_quo rfl rfl (by omega) (by omega) (by omega) ⟨rfl, rfl, rfl⟩) ?_
            refine w_pg rfl rfl (fun _ _ => ok_indexAddr (sl rfl) (ty rfl) rfl rfl (by omega) (by omega) (off := (xb * W + atN fb yb mm / 64)) (by omega) ⟨rfl, rfl, rfl⟩) ?_
            refine w_rg rfl rfl (fun _ _ hExt => ok_load (ty rfl) rfl (hExt _ _ (hX9h _ _ sb1)) (sb3 _ hzb) ⟨rfl, rfl, rfl⟩) ?_
            refine w_pg rfl rfl (fun _ _ => ok_move (v := .int _ _) rfl ⟨rfl, rfl, rfl⟩) ?_
            refine w_pg rfl rfl (fun _ _ => ok_rem rfl rfl (by omega) (by omega) ⟨rfl, rfl, rfl⟩) ?_
            refine w_pg rfl rfl (fun _ _ => ok_shl rfl rfl (by omega) ⟨rfl, rfl, rfl⟩) ?_
            refine w_pg rfl rfl (fun _ _ => ok_and rfl rfl ⟨rfl, rfl, rfl⟩) ?_
            refine w_pg rfl rfl (fun _ _ => ok_neq rfl rfl ⟨rfl, rfl, rfl⟩) ?_
            refine w_p rfl (fun _ _ => ok_pick_false rfl rfl ⟨rfl, rfl, rfl⟩) ?_
            refine w_p rfl (fun _ _ => ok_assign (v := .bool _) rfl ⟨rfl, rfl, rfl⟩) ?_
            refine w_nil ?_
            refine n_then ⟨rfl, rfl, rfl, rfl, rfl, rfl, rfl, rfl, rfl, rfl, rfl, rfl, rfl, ?_, rfl, rfl, rfl, rfl, rfl, trivial⟩
            show Value.bool (decide (and64 (Fb (xb * W + atN fb yb mm / 64)) (shl64 1 ((atN fb yb mm % 64 : Nat) : Int)) ≠ 0)) = _
            rw [Grp.holds, hBa, Bool.false_or, ← hb2]
            congr 1
            rw [Bool.eq_iff_iff, decide_eq_true_eq]
            constructor
            · intro hn
              cases hbv : bit W Fb xb (atN fb yb mm) with
              | true => rfl
              | false => exact absurd ((and_zero _ (by omega)).2 hbv) hn
            · intro hn e
              have := (and_zero _ (by omega)).1 e
              unfold bit at hn
              rw [hn] at this; cases this
        rintro E h13 N13 D ⟨rfl, rfl, rfl, hE6⟩
        obtain ⟨E6, rfl⟩ := hE6.ex
        refine n_then ?_
        refine c_seq ?_
        refine c_seq ?_
        have hgc9 := hY9 _ _ ygc
        refine c_cut (fun E h' N' D => D = [] ∧ h' = h13 ∧ N' = N13 ∧ Fr E [(140, .bool (g.skips mm || g.holds B mm)), (16, .int .i64 (p : Int)), (0, .func (.yield l) #[] #[]), (1, .pointer (some ⟨bp, 0, none⟩)), (9, .func (.func 13) #[] #[.pointer (some ⟨bc, 0, none⟩)]), (11, .pointer (some ⟨bg, q * 14, none⟩)), (12, .slice (some ⟨ra, xa * W, none⟩) W ca), (13, .pointer (some ⟨N7, 0, none⟩)), (14, .slice (some ⟨rb, xb * W, none⟩) W cb), (15, .pointer (some ⟨N9, 0, none⟩)), (58, .int .i64 (gl.length : Int)), (59, .int .i64 (q : Int)), (87, .slice (some ⟨bm, 0, none⟩) g.ms.length cm), (88, .int .i64 (g.ms.length : Int)), (89, .int .i64 (p : Int))]) ?_ ?_
        · by_cases e0 : (mm : Int) = g.k0
          · skip
            refine c_region (by kernel_rfl) ?_
            refine st_q (ok_move (v := .int _ _) rfl ⟨rfl, rfl, rfl⟩) ?_
            refine st_q (ok_move (v := .pointer _) rfl ⟨rfl, rfl, rfl⟩) ?_
            refine st_q (ok_nilCheck_ptr rfl ⟨rfl, rfl, rfl⟩) ?_
            refine st_q (ok_fieldAddr (fld rfl) rfl ⟨rfl, rfl, rfl⟩) ?_
            refine st_q (ok_indexAddrA (ar rfl) (ty rfl) rfl rfl (by omega) (by omega) (off := (q * 14 + 10)) (by omega) ⟨rfl, rfl, rfl⟩) ?_
            refine st_q (ok_load (ty rfl) rfl hgc9 hG.g10 ⟨rfl, rfl, rfl⟩) ?_
            refine st_q (ok_eql_t rfl rfl ((e0)) ⟨rfl, rfl, rfl⟩) ?_
            refine st_q (ok_move (v := .bool _) rfl ⟨rfl, rfl, rfl⟩) ?_
            refine st_s rfl ?_
            refine st_s rfl ?_
            refine st_s rfl ?_
            refine st_s rfl ?_
            refine st_s rfl ?_
            refine st_s rfl ?_
            refine st_s rfl ?_
            refine st_q (ok_pick_true rfl rfl ⟨rfl, rfl, rfl⟩) ?_
            refine st_q (ok_move (v := .bool _) rfl ⟨rfl, rfl, rfl⟩) ?_
            refine st_s rfl ?_
            refine st_q (ok_pick_true rfl rfl ⟨rfl, rfl, rfl⟩) ?_
            refine o_nil ?_
            refine n_then ⟨rfl, rfl, rfl, ?_, rfl, rfl, rfl, rfl, rfl, rfl, rfl, rfl, rfl, rfl, rfl, rfl, rfl, rfl, trivial⟩
            show Value.bool true = _
            simp [Grp.skips, e0]
          · by_cases e1 : (mm : Int) = g.k1
            · skip
              refine c_region (by kernel_rfl) ?_
              refine st_q (ok_move (v := .int _ _) rfl ⟨rfl, rfl, rfl⟩) ?_
              refine st_q (ok_move (v := .pointer _) rfl ⟨rfl, rfl, rfl⟩) ?_
              refine st_q (ok_nilCheck_ptr rfl ⟨rfl, rfl, rfl⟩) ?_
              refine st_q (ok_fieldAddr (fld rfl) rfl ⟨rfl, rfl, rfl⟩) ?_
              refine st_q (ok_indexAddrA (ar rfl) (ty rfl) rfl rfl (by omega) (by omega) (off := (q * 14 + 10)) (by omega) ⟨rfl, rfl, rfl⟩) ?_
              refine st_q (ok_load (ty rfl) rfl hgc9 hG.g10 ⟨rfl, rfl, rfl⟩) ?_
              refine st_q (ok_eql_f rfl rfl ((e0)) ⟨rfl, rfl, rfl⟩) ?_
              refine st_q (ok_move (v := .bool _) rfl ⟨rfl, rfl, rfl⟩) ?_
              refine st_g rfl (ok_move (v := .int _ _) rfl ⟨rfl, rfl, rfl⟩) ?_
              refine st_g rfl (ok_move (v := .pointer _) rfl ⟨rfl, rfl, rfl⟩) ?_
              refine st_g rfl (ok_nilCheck_ptr rfl ⟨rfl, rfl, rfl⟩) ?_
              refine st_g rfl (ok_fieldAddr (fld rfl) rfl ⟨rfl, rfl, rfl⟩) ?_
              refine st_g rfl (ok_indexAddrA (ar rfl) (ty rfl) rfl rfl (by omega) (by omega) (off := (q * 14 + 11)) (by omega) ⟨rfl, rfl, rfl⟩) ?_
              refine st_g rfl (ok_load (ty rfl) rfl hgc9 hG.g11 ⟨rfl, rfl, rfl⟩) ?_
              refine st_g rfl (ok_eql_t rfl rfl ((e1)) ⟨rfl, rfl, rfl⟩) ?_
              refine st_q (ok_pick_false rfl rfl ⟨rfl, rfl, rfl⟩) ?_
              refine st_q (ok_move (v := .bool _) rfl ⟨rfl, rfl, rfl⟩) ?_
              refine st_s rfl ?_
              refine st_q (ok_pick_true rfl rfl ⟨rfl, rfl, rfl⟩) ?_
              refine o_nil ?_
              refine n_then ⟨rfl, rfl, rfl, ?_, rfl, rfl, rfl, rfl, rfl, rfl, rfl, rfl, rfl, rfl, rfl, rfl, rfl, rfl, trivial⟩
              show Value.bool true = _
              simp [Grp.skips, e1]
            · skip
              refine c_region (by kernel_rfl) ?_
              refine st_q (ok_move (v := .int _ _) rfl ⟨rfl, rfl, rfl⟩) ?_
              refine st_q (ok_move (v := .pointer _) rfl ⟨rfl, rfl, rfl⟩) ?_
              refine st_q (ok_nilCheck_ptr rfl ⟨rfl, rfl, rfl⟩) ?_
              refine st_q (ok_fieldAddr (fld rfl) rfl ⟨rfl, rfl, rfl⟩) ?_
              refine st_q (ok_indexAddrA (ar rfl) (ty rfl) rfl rfl (by omega) (by omega) (off := (q * 14 + 10)) (by omega) ⟨rfl, rfl, rfl⟩) ?_
              refine st_q (ok_load (ty rfl) rfl hgc9 hG.g10 ⟨rfl, rfl, rfl⟩) ?_
              refine st_q (ok_eql_f rfl rfl ((e0)) ⟨rfl, rfl, rfl⟩) ?_
              refine st_q (ok_move (v := .bool _) rfl ⟨rfl, rfl, rfl⟩) ?_
              refine st_g rfl (ok_move (v := .int _ _) rfl ⟨rfl, rfl, rfl⟩) ?_
              refine st_g rfl (ok_move (v := .pointer _) rfl ⟨rfl, rfl, rfl⟩) ?_
              refine st_g rfl (ok_nilCheck_ptr rfl ⟨rfl, rfl, rfl⟩) ?_
              refine st_g rfl (ok_fieldAddr (fld rfl) rfl ⟨rfl, rfl, rfl⟩) ?_
              refine st_g rfl (ok_indexAddrA (ar rfl) (ty rfl) rfl rfl (by omega) (by omega) (off := (q * 14 + 11)) (by omega) ⟨rfl, rfl, rfl⟩) ?_
              refine st_g rfl (ok_load (ty rfl) rfl hgc9 hG.g11 ⟨rfl, rfl, rfl⟩) ?_
              refine st_g rfl (ok_eql_f rfl rfl ((e1)) ⟨rfl, rfl, rfl⟩) ?_
              refine st_q (ok_pick_false rfl rfl ⟨rfl, rfl, rfl⟩) ?_
              refine st_q (ok_move (v := .bool _) rfl ⟨rfl, rfl, rfl⟩) ?_
              refine st_g rfl (ok_move (v := .bool _) rfl ⟨rfl, rfl, rfl⟩) ?_
              refine st_q (ok_pick_false rfl rfl ⟨rfl, rfl, rfl⟩) ?_
              refine o_nil ?_
              refine n_then ⟨rfl, rfl, rfl, ?_, rfl, rfl, rfl, rfl, rfl, rfl, rfl, rfl, rfl, rfl, rfl, rfl, rfl, rfl, trivial⟩
              show Value.bool (g.holds B mm) = _
              simp [Grp.skips, e0, e1]
        rintro E h14 N14 D ⟨rfl, rfl, rfl, hE7⟩
        obtain ⟨E7, rfl⟩ := hE7.ex
        refine n_then ?_
        have hlast : Value.int .i64 ((p : Int) + 1) = .int .i64 ((g.ms.length - (k' - 1) : Nat) : Int) := by congr 1; omega
        refine c_cond rfl (fun hc3 => ?_) (fun hc3 => ?_)
        · skip
          have h1 : g.one B p = [] := by unfold Grp.one; rw [hgd, if_pos hc3]
          refine c_exit ?_
          refine x_then (x_block (n_then ?_))
          refine c_region (by kernel_rfl) ?_
          refine st_q (ok_add rfl rfl (by omega) (by omega) ⟨rfl, rfl, rfl⟩) ?_
          refine st_q (ok_move (v := .int _ _) rfl ⟨rfl, rfl, rfl⟩) ?_
          refine o_nil ?_
          refine n_then ⟨k' - 1, by omega, rfl, by omega, ⟨X9, hX79, by rw [show g.ms.length - (k' - 1) = p + 1 from by omega, upto_succ, h1, List.append_nil]; exact hJ9⟩, rfl, rfl, rfl, rfl, rfl, rfl, rfl, rfl, rfl, rfl, rfl, rfl, hlast, trivial⟩
        · skip
          have h1 : g.one B p = [g.rc p mm] := by unfold Grp.one; rw [hgd, if_neg (by rw [hc3]; exact Bool.false_ne_true)]
          obtain ⟨C, hC⟩ := at_split (B := B) hgq hpl
          rw [h1] at hC
          have hrec2 : recs = (allTo gl B q ++ g.upto B p) ++ g.rc p mm :: C := by rw [hrec, hC]; rfl
          refine c_skip ?_
          refine n_then ?_
          refine c_seq ?_
          refine c_cut (fun E h' N' D => D = [] ∧ ∃ b, ((b = true ∧ ∃ X, Ext X7 X ∧ J ((allTo gl B q ++ g.upto B p) ++ [g.rc p mm]) X h' N') ∨ (b = false ∧ Jx h' N')) ∧ Fr E [(150, .bool (!b)), (0, .func (.yield l) #[] #[]), (1, .pointer (some ⟨bp, 0, none⟩)), (9, .func (.func 13) #[] #[.pointer (some ⟨bc, 0, none⟩)]), (11, .pointer (some ⟨bg, q * 14, none⟩)), (12, .slice (some ⟨ra, xa * W, none⟩) W ca), (13, .pointer (some ⟨N7, 0, none⟩)), (14, .slice (some ⟨rb, xb * W, none⟩) W cb), (15, .pointer (some ⟨N9, 0, none⟩)), (58, .int .i64 (gl.length : Int)), (59, .int .i64 (q : Int)), (87, .slice (some ⟨bm, 0, none⟩) g.ms.length cm), (88, .int .i64 (g.ms.length : Int)), (89, .int .i64 (p : Int))]) ?_ ?_
          · skip
            refine c_draw mixed [0, 0, 0, 2, 0, 0, 0, 0, 2] 10 rfl [((0, 2), [((1, 2), [((2, 2), [((4, 2), [((5, 2), [((6, 2), [((3, 0), [((7, 1), [((8, 0), [((9, 2), ())])])]), ((7, 0), [((3, 0), [((8, 0), [((9, 2), ())])])])])])])])])])] (by kernel_rfl) (by kernel_rfl) ?_
            refine w_p rfl (fun _ _ => ok_move (v := .func _ _ _) rfl ⟨rfl, rfl, rfl⟩) ?_
            refine w_p rfl (fun _ _ => ok_move (v := .pointer _) rfl ⟨rfl, rfl, rfl⟩) ?_
            refine w_p rfl (fun _ _ => ok_move (v := .int _ _) rfl ⟨rfl, rfl, rfl⟩) ?_
            refine w_p rfl (fun _ _ => ok_move (v := .pointer _) rfl ⟨rfl, rfl, rfl⟩) ?_
            refine w_p rfl (fun _ _ => ok_nilCheck_ptr rfl ⟨rfl, rfl, rfl⟩) ?_
            refine w_p rfl (fun _ _ => ok_fieldAddr (fld rfl) rfl ⟨rfl, rfl, rfl⟩) ?_
            refine w_cons ?_ (w_cons ?_ (w_none))
            · skip
              refine w_e rfl (ok_call rfl ent17 (choice_ok (hY9 _ _ hp) p5 hgc9 hG (hY9 _ _ ybm) (hms p mm hgp) hpl (by have := gok.b0; omega) (by have := gok.b1; omega) (by have := gok.b2; omega) (by have := gok.b3; omega) (by omega)) rfl ?_)
              rintro _ h15 N15 ⟨rfl, hx15⟩
              obtain ⟨X10, hX910, _, hJ10⟩ := jx _ _ _ _ _ N15 hJ9 hx15
              refine ⟨trivial, ?_⟩
              refine w_r rfl (fun _ _ hExt => ok_load (ty rfl) rfl (hExt _ _ (by first | exact hgc9 | exact hx15 _ _ hgc9)) hG.g13 ⟨rfl, rfl, rfl⟩) ?_
              refine w_e rfl (ok_yield rfl (hY _ (g.rc p mm) C X10 _ _ hrec2 hJ10) rfl ?_); rintro bb h16 N16 hcs; refine ⟨trivial, ?_⟩
              refine w_p rfl (fun _ _ => ok_not rfl ⟨rfl, rfl, rfl⟩) ?_
              refine w_nil ?_
              refine n_then ⟨rfl, bb, ?_, rfl, rfl, rfl, rfl, rfl, rfl, rfl, rfl, rfl, rfl, rfl, rfl, rfl, rfl, trivial⟩; exact hcs.elim (fun hh => .inl ⟨hh.1, X10, hX79.trans hX910, hh.2⟩) .inr
            · skip
              refine w_e rfl (ok_load (ty rfl) rfl (by first | exact hgc9 | exact hx15 _ _ hgc9) hG.g13 ⟨⟨rfl, rfl⟩, ?_⟩)
              refine w_e rfl (ok_call rfl ent17 (choice_ok (hY9 _ _ hp) p5 hgc9 hG (hY9 _ _ ybm) (hms p mm hgp) hpl (by have := gok.b0; omega) (by have := gok.b1; omega) (by have := gok.b2; omega) (by have := gok.b3; omega) (by omega)) rfl ?_)
              rintro _ h15 N15 ⟨rfl, hx15⟩
              obtain ⟨X10, hX910, _, hJ10⟩ := jx _ _ _ _ _ N15 hJ9 hx15
              refine ⟨trivial, ?_⟩
              refine w_e rfl (ok_yield rfl (hY _ (g.rc p mm) C X10 _ _ hrec2 hJ10) rfl ?_); rintro bb h16 N16 hcs; refine ⟨trivial, ?_⟩
              refine w_p rfl (fun _ _ => ok_not rfl ⟨rfl, rfl, rfl⟩) ?_
              refine w_nil ?_
              refine n_then ⟨rfl, bb, ?_, rfl, rfl, rfl, rfl, rfl, rfl, rfl, rfl, rfl, rfl, rfl, rfl, rfl, rfl, trivial⟩; exact hcs.elim (fun hh => .inl ⟨hh.1, X10, hX79.trans hX910, hh.2⟩) .inr
          rintro E h15 N15 D ⟨rfl, bb, hcs, hE8⟩
          obtain ⟨E8, rfl⟩ := hE8.ex
          refine n_then ?_
          rcases hcs with ⟨rfl, X10, hX710, hJ10⟩ | ⟨rfl, hJx⟩
          · refine c_cond_false rfl ?_
            refine c_skip ?_
            refine n_block (n_then ?_)
            skip
            refine c_region (by kernel_rfl) ?_
            refine st_q (ok_add rfl rfl (by omega) (by omega) ⟨rfl, rfl, rfl⟩) ?_
            refine st_q (ok_move (v := .int _ _) rfl ⟨rfl, rfl, rfl⟩) ?_
            refine o_nil ?_
            refine n_then ⟨k' - 1, by omega, rfl, by omega, ⟨X10, hX710, by rw [show g.ms.length - (k' - 1) = p + 1 from by omega, upto_succ, h1, ← List.append_assoc]; exact hJ10⟩, rfl, rfl, rfl, rfl, rfl, rfl, rfl, rfl, rfl, rfl, rfl, rfl, hlast, trivial⟩
          · refine c_cond_true rfl ?_
            refine c_ret ?_
            refine r_block (r_then (r_then (r_block (r_block (r_then (r_then (r_block ?_)))))))
            exact r_leave (leave_none rfl (.inr hJx))
      · skip
        refine c_exit ?_
        refine x_then (x_then (x_block (n_block (n_then ?_))))
        have hk0 : k' = 0 := by omega
        subst hk0
        rw [Nat.sub_zero] at hJ8
        refine c_region (by kernel_rfl) ?_
        refine st_q (ok_add rfl rfl (by omega) (by omega) ⟨rfl, rfl, rfl⟩) ?_
        refine st_q (ok_move (v := .int _ _) rfl ⟨rfl, rfl, rfl⟩) ?_
        refine o_nil ?_
        refine n_then ⟨k - 1, by omega, rfl, by omega, ⟨X8, hX57.trans hX78, by rw [show gl.length - (k - 1) = q + 1 from by omega, allTo_succ hgq]; exact hJ8⟩, rfl, rfl, rfl, rfl, ?_, trivial⟩
        show Value.int .i64 ((q : Int) + 1) = _
        congr 1; omega
    · skip
      refine c_exit ?_
      refine x_then (x_then (x_block ?_))
      have hk0 : k = 0 := by omega
      subst hk0
      rw [Nat.sub_zero] at hJ6
      exact n_leave (leave_none rfl (.inl ⟨X6, by rw [hrec]; exact hJ6⟩))
end
end Sx
end Go.Proofs.YbulkcsqkGreat
