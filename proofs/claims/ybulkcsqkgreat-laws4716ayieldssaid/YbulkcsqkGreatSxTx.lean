import Derived.Test.YbulkcsqkGreatSxSort
import Derived.Test.YbulkcsqkGreatSxEdge
namespace Go.Proofs.YbulkcsqkGreat
namespace Sx
set_option maxRecDepth 10000
set_option maxHeartbeats 1000000
variable {w0 : World}

theorem made_get {z : Value} {n : Nat} : ∀ i, i < n → (madeCells #[z] (n * 1))[i]? = some z := by
  intro i hi
  rw [madeCells_one, Nat.mul_one]
  simp [hi]
theorem made_size {z : Value} {n : Nat} : (madeCells #[z] (n * 1)).size = n := by
  rw [madeCells_one]; simp
theorem setA_self {cs : Array Value} {i : Nat} {v : Value} (h : cs[i]? = some v) : setA cs i v = cs := by
  apply Array.ext'
  simp only [setA]
  apply List.ext_getElem?
  intro j
  rw [List.getElem?_set]
  split
  · rename_i e; subst e
    rw [← Array.getElem?_toList] at h
    split
    · exact h.symm
    · rename_i hn
      rw [List.getElem?_eq_none (by omega)] at h; cases h
  · rfl

/-- What the ways to one row leave of the others. -/
theorem Rows.same {m m' : Hp} {bs n k : Nat} {V : Nat → Value} {S : Nat → List Nat} {ys : List Nat} (hr : Rows m bs n V S) (hk : k < n) (ho : Own m' 3 1 (V k) (ints ys)) (hm : ∀ c, blk (V k) ≠ some c → m' c = m c) : Rows m' bs n V (fun l => if l = k then ys else S l) := by
  obtain ⟨vs, h1, h2⟩ := hr.top
  refine ⟨⟨vs, (hm bs (hr.nbs hk)).trans h1, h2⟩, fun i hi => ?_, hr.inj⟩
  by_cases e : i = k
  · subst e; simp only [if_true]; exact ho
  · simp only [e, if_false]
    rcases hr.own i hi with h3 | ⟨b, n', c', cs, h3, h4, h5⟩
    · exact .inl h3
    · refine .inr ⟨b, n', c', cs, h3, (hm b ?_).trans h4, h5⟩
      intro hb
      exact e (hr.inj _ _ b hi hk (by rw [h3]; rfl) hb)

/-- A row that grew: the block that it lies in now. -/
theorem grow_ne {m : Hp} {bs n k b' x : Nat} {V : Nat → Value} {S : Nat → List Nat} {o : Obj} {cs : Array Value} {t : TypeId} {fz : Nat × Nat} {h : Hp} (hr : Rows m bs n V S) (hk : k < n) (hG : (h b' = none ∧ m b' = none) ∨ blk (V k) = some b') (hx : m x = some (.cells cs t fz)) (ht : Nat.beq 3 t = false) : (hset m b' o) x = some (.cells cs t fz) := by
  refine (hset_ne _ _ ?_).trans hx
  rcases hG with ⟨_, hG⟩ | hG
  · exact ne_of_none hx hG
  · obtain ⟨cs', hc⟩ := (hr.own k hk).at hG
    exact (ne_of_ty hc hx ht).symm
theorem grow_sep {m X h : Hp} {bs n k b' N N' : Nat} {V : Nat → Value} {S : Nat → List Nat} (hS : Sep m X h) (hr : Rows m bs n V S) (hk : k < n) (hG : Grown h N b' N' 3 (V k)) (o : Obj) : Sep (hset m b' o) X (hset h b' o) := by
  rcases hG.or hS.own with ⟨h1, _⟩ | h1
  · exact hS.new h1 o
  · obtain ⟨cs, hc⟩ := (hr.own k hk).at h1
    exact hS.set hc o

theorem Sep.notm {m X h : Hp} {b : Nat} {o : Obj} (hS : Sep m X h) (hX : X b = some o) : m b = none := (hS.dis b).resolve_right (by rw [hX]; exact fun e => by cases e)
theorem rows_app {m X h : Hp} {bs n k b' n' c' x N N' : Nat} {V : Nat → Value} {S : Nat → List Nat} {cs' vs : Array Value} (hS : Sep m X h) (hr : Rows m bs n V S) (hk : k < n) (hG : Grown h N b' N' 3 (V k)) (hs : cs'.size = c' * 1) (hn : n' ≤ c') (hl : (ints (S k) ++ [Value.int .i64 (x : Int)]).length = n' * 1) (ht : cs'.toList.take (n' * 1) = ints (S k) ++ [Value.int .i64 (x : Int)]) (gt : m bs = some (.cells vs 34 (0, 0))) :
    ∃ m' V', Sep m' X (hset (hset h b' (.cells cs' 3 (0, 0))) bs (.cells (setA vs k (.slice (some ⟨b', 0, none⟩) n' c')) 34 (0, 0))) ∧ Rows m' bs n V' (ap S k x) ∧ ∀ (y : Nat) (cs : Array Value) (t : TypeId) (fz : Nat × Nat), m y = some (.cells cs t fz) → Nat.beq 3 t = false → Nat.beq 34 t = false → m' y = some (.cells cs t fz) := by
  have hor := hG.or hS.own
  have hS2 := grow_sep hS hr hk hG (.cells cs' 3 (0, 0))
  have gt2 := grow_ne (o := .cells cs' 3 (0, 0)) hr hk hor gt rfl
  have e : ints (S k ++ [x]) = ints (S k) ++ [Value.int .i64 (x : Int)] := by simp [ints]
  have hb : m b' = none ∨ blk (V k) = some b' := by
    rcases hor with h1 | h1
    · exact .inl h1.2
    · exact .inr h1
  refine ⟨_, _, hS2.set gt2 _, hr.put hk hb gt (ys := S k ++ [x]) hs hn (by rw [e]; exact hl) (by rw [e]; exact ht), ?_⟩
  intro y cs t fz hy h3 h34
  rw [hset_ne _ _ (ne_of_ty gt hy h34).symm]
  exact grow_ne hr hk hor hy h3

section
variable {h Y : Hp} {N be n c bb nc : Nat} {M : Nat → Option Nat} {R : Nat → List Nat} {an : Option Addr}

def gcells (an : Option Addr) (n nc bs : Nat) : Array Value := #[.slice an n nc, .slice (some ⟨bs, 0, none⟩) n n, .slice none 0 0, .slice none 0 0, .slice none 0 0]

theorem newTxGraph_ok (hE : ES Y be n M R) (hbb : Y bb = some (.cells #[.slice (some ⟨be, 0, none⟩) n c] 31 (0, 0))) (hY : Ext Y h) (hn : n ≤ 100) (hRn : ∀ i, i < n → (R i).Nodup) (hRl : ∀ i, i < n → (R i).length ≤ 100) :
    CallsX Ybaz.prog w0 9 #[.slice an n nc, .func (.func 20) #[] #[.pointer (some ⟨bb, 0, none⟩)], .slice none 0 0] h N (fun v h' _ => Ext h h' ∧ ∃ bs V S, v = .agg (gcells an n nc bs) ∧ Rows h' bs n V S ∧ ∀ i, i < n → (S i).Perm (R i)) := by
  refine calls_of Ybaz.func9 rfl Ybaz.ntmps9 (Nat.le_of_ble_eq_true rfl) ?_
  refine c_seq ?_
  refine c_region (by kernel_rfl) ?_
  refine st (ok_alloc (ty rfl) rfl (fun hN6 => ?_))
  refine o_nil ?_
  refine n_then ?_
  refine c_seq ?_
  refine c_region (by kernel_rfl) ?_
  refine st_q (ok_move (v := .slice _ _ _) rfl ⟨rfl, rfl, rfl⟩) ?_
  refine st_q (ok_move (v := .slice _ _ _) rfl ⟨rfl, rfl, rfl⟩) ?_
  refine st_q (ok_len (sl rfl) rfl ⟨rfl, rfl, rfl⟩) ?_
  refine st (ok_makeSlice (sl rfl) (ty rfl) rfl rfl (by omega) (by omega) (by omega) (by omega) (l' := n) (c' := n) (by omega) (by omega) (fun hN20 => ?_))
  refine st_q (ok_move (v := .slice _ _ _) rfl ⟨rfl, rfl, rfl⟩) ?_
  refine st_q (ok_build rfl (v := .agg (gcells an n nc (N + 1))) (fun _ => by kernel_rfl) ⟨rfl, rfl, rfl⟩) ?_
  refine st (ok_alloc (ty rfl) rfl (fun hN7 => ?_))
  refine st0 (ok_storeL (ty rfl) rfl (v := .agg _) rfl rfl rfl rfl (hset_same _ _ _) (Nat.le_of_ble_eq_true rfl) ?_)
  refine o_nil ?_
  refine n_then ?_
  refine c_seq ?_
  have hS := ((((Sep.start h).push hN6 (.cells #[.slice none 0 0, .slice none 0 0, .slice none 0 0, .slice none 0 0, .slice none 0 0] 69 (0, 0))).push hN20 (.cells (madeCells #[.slice none 0 0] (n * 1)) 34 (0, 0))).push hN7 (.cells #[.slice none 0 0, .slice none 0 0, .slice none 0 0, .slice none 0 0, .slice none 0 0] 69 (0, 0))).set (hset_same _ _ _) (.cells (gcells an n nc (N + 1)) 69 (0, 0))
  refine c_heap (fun h' _ => ∃ m V, Sep m h h' ∧ m N = some (.cells #[.slice none 0 0, .slice none 0 0, .slice none 0 0, .slice none 0 0, .slice none 0 0] 69 (0, 0)) ∧ m (N + 1 + 1) = some (.cells (gcells an n nc (N + 1)) 69 (0, 0)) ∧ Rows m (N + 1) n V (fun _ => [])) ⟨_, fun _ => .slice none 0 0, hS, ?_, ?_, ?_⟩ ?_
  · exact (hset_ne _ _ (by omega)).trans ((hset_ne _ _ (by omega)).trans ((hset_ne _ _ (by omega)).trans (hset_same _ _ _)))
  · exact hset_same _ _ _
  · refine ⟨⟨madeCells #[.slice none 0 0] (n * 1), (hset_ne _ _ (by omega)).trans ((hset_ne _ _ (by omega)).trans (hset_same _ _ _)), made_size, made_get⟩, fun _ _ => .inl ⟨rfl, rfl⟩, fun _ _ _ _ _ e => by cases e⟩
  clear hS
  rintro h1 N1 ⟨m, V, hS, g6, g7, hRw⟩
  have hS0 := hS
  refine c_seq ?_
  refine c_region (by kernel_rfl) ?_
  refine st_q (ok_move (v := .func _ _ _) rfl ⟨rfl, rfl, rfl⟩) ?_
  refine o_nil ?_
  refine n_then ?_
  refine c_block ?_
  refine c_cut (fun E h' _ D => Fr E [(2, .slice none 0 0), (6, .pointer (some ⟨N, 0, none⟩)), (7, .pointer (some ⟨N + 1 + 1, 0, none⟩))] ∧ ∃ dn, D = [{ target := .collected dn, args := #[] }] ∧ h dn = none ∧ h' dn = some (.deferred (some [])) ∧ ∃ m V S, m dn = none ∧ Sep m h h' ∧ m N = some (.cells #[.slice none 0 0, .slice none 0 0, .slice none 0 0, .slice none 0 0, .slice none 0 0] 69 (0, 0)) ∧ m (N + 1 + 1) = some (.cells (gcells an n nc (N + 1)) 69 (0, 0)) ∧ Rows m (N + 1) n V S ∧ ∀ i, i < n → (S i).Perm (R i)) ?_ ?_
  · skip
    by_cases hfree : ∀ b, N1 ≤ b → h1 b = none
    case neg =>
      refine c_range (σ := Nat) (gf := 20) (ps := [24]) (lb := #[.pointer (some ⟨bb, 0, none⟩)]) rfl ent20 rfl (fun _ _ _ => False) (fun _ _ _ => False) (fun _ _ _ => False) (fun _ => False) 0 (fun _ hf => hfree hf) (fun _ _ _ _ x => x) (fun _ _ _ _ x => x) (fun _ _ _ x => x.elim) (fun _ _ _ _ _ _ x => x.elim) (fun _ _ _ x => x.1.elim) (fun _ _ _ x => x.elim) (fun _ _ _ x => x.elim)
    have fd := hfree N1 (Nat.le_refl _)
    have fl := hfree (N1 + 1) (by omega)
    refine c_range (σ := (Nat → List Nat) × Hp) (gf := 20) (ps := [24]) (lb := #[.pointer (some ⟨bb, 0, none⟩)]) rfl ent20 rfl
      (fun s h' _ => ∃ m V, Sep m s.2 h' ∧ m N1 = none ∧ m (N1 + 1) = none ∧ s.2 N1 = none ∧ s.2 (N1 + 1) = none ∧ Ext h s.2 ∧ m N = some (.cells #[.slice none 0 0, .slice none 0 0, .slice none 0 0, .slice none 0 0, .slice none 0 0] 69 (0, 0)) ∧ m (N + 1 + 1) = some (.cells (gcells an n nc (N + 1)) 69 (0, 0)) ∧ Rows m (N + 1) n V s.1)
      (fun _ _ _ => False) (fun s args s' => ∃ f t, f < n ∧ t ∈ R f ∧ (s.1 f).length < (R f).length ∧ args = [.agg #[.int .i64 (f : Int), .int .i64 (t : Int)]] ∧ s' = (ap s.1 f t, s.2)) (fun s => ∀ i, i < n → (s.1 i).Perm (R i)) ((fun _ => []), h) ?_ ?_ ?_ ?_ ?_ ?_ ?_ ?_
    · intro o _
      exact ⟨m, V, (hS.fresh fd _).fresh ((hset_ne _ _ (by omega)).trans fl) _, hS.own.back fd, hS.own.back fl, hS.oth.back fd, hS.oth.back fl, Ext.refl h, g6, g7, hRw⟩
    · rintro s h' N' o ⟨m, V, hS, a1, a2, a3, a4, a5⟩
      exact ⟨m, V, hS.setO a2 a4 o, a1, a2, a3, a4, a5⟩
    · intro _ _ _ _ x; exact x
    · rintro s args s' ⟨f, t, _, _, _, rfl, _⟩; rfl
    · rintro Rc s args s' h' N' ⟨f, t, hf, ht, hlen, rfl, rfl⟩ hRd ⟨m, V, hS, a1, a2, a3, a4, a5, g6, g7, hRw⟩ hl hd
      refine c_region (by kernel_rfl) ?_
      refine st (ok_alloc (ty rfl) rfl (fun hN8 => ?_))
      refine st0 (ok_storeL (ty rfl) rfl (v := .agg _) rfl rfl rfl rfl (hset_same _ _ _) (Nat.le_of_ble_eq_true rfl) ?_)
      refine o_nil ?_
      have hl' : h' (N1 + 1) = some (Rc.obj .ready none) := hl
      have hne1 : N1 + 1 ≠ N' := ne_of_none hl (hN8 _ (Nat.le_refl _))
      have hne2 : N1 ≠ N' := ne_of_none hd (hN8 _ (Nat.le_refl _))
      refine n_then ⟨(hset_ne _ _ hne1).trans ((hset_ne _ _ hne1).trans hl), ?_⟩
      have hmN : m N' = none := hS.own.back (hN8 _ (Nat.le_refl _))
      have hS := (hS.push hN8 (.cells #[.int .i64 0, .int .i64 0] 56 (0, 0))).set (hset_same _ _ _) (.cells #[.int .i64 (f : Int), .int .i64 (t : Int)] 56 (0, 0))
      rw [hset_hset m] at hS
      have gE := hset_same m N' (.cells #[.int .i64 (f : Int), .int .i64 (t : Int)] 56 (0, 0))
      have g7 : (hset m N' (.cells #[.int .i64 (f : Int), .int .i64 (t : Int)] 56 (0, 0))) (N + 1 + 1) = _ := (hset_ne _ _ (ne_of_none g7 hmN)).trans g7
      have g6 : (hset m N' (.cells #[.int .i64 (f : Int), .int .i64 (t : Int)] 56 (0, 0))) N = _ := (hset_ne _ _ (ne_of_none g6 hmN)).trans g6
      have hRw := hRw.fresh (o := .cells #[.int .i64 (f : Int), .int .i64 (t : Int)] 56 (0, 0)) hmN
      have b1 : (hset m N' (.cells #[.int .i64 (f : Int), .int .i64 (t : Int)] 56 (0, 0))) N1 = none := (hset_ne _ _ hne2).trans a1
      have b2 : (hset m N' (.cells #[.int .i64 (f : Int), .int .i64 (t : Int)] 56 (0, 0))) (N1 + 1) = none := (hset_ne _ _ hne1).trans a2
      have hS := hS.setO b2 a4 (Rc.obj .busy none)
      have hS := (hS.takeX (hset_same _ _ _) b2).takeX (b := N1) (o := .deferred (some [])) ((hset_ne _ _ (by omega)).trans ((hset_ne _ _ hne2).trans ((hset_ne _ _ hne2).trans hd))) b1
      refine c_heap (fun h2 _ => ∃ m, Sep m (hset (hset s.2 (N1 + 1) (Rc.obj .busy none)) N1 (.deferred (some []))) h2 ∧ m N' = some (.cells #[.int .i64 (f : Int), .int .i64 (t : Int)] 56 (0, 0)) ∧ m N = some (.cells #[.slice none 0 0, .slice none 0 0, .slice none 0 0, .slice none 0 0, .slice none 0 0] 69 (0, 0)) ∧ m (N + 1 + 1) = some (.cells (gcells an n nc (N + 1)) 69 (0, 0)) ∧ Rows m (N + 1) n V s.1) ⟨_, hS, gE, g6, g7, hRw⟩ ?_
      clear hS gE g6 g7 hRw b1 b2 hmN
      rintro h2 N2 ⟨m, hS, gE, g6, g7, hRw⟩
      refine c_block ?_
      obtain ⟨vs, gt, gtn, gtv⟩ := hRw.top
      have hva := gtv f hf
      have own := (hRw.own f hf).ext hS.own
      have hlr : (ints (s.1 f)).length ≤ 1000 := by simp only [ints, List.length_map]; have := hRl f hf; omega
      have hg := hS.own _ _ g7
      have he := hS.own _ _ gE
      have hs := hS.own _ _ gt
      refine c_draw mixed [0, 0, 0, 0, 0, 0, 0, 0, 0, 0, 0, 0, 1, 2, 0, 2] 16 rfl [((0, 2), [((2, 2), [((4, 2), [((5, 1), [((6, 2), [((7, 1), [((8, 2), [((9, 1), [((10, 2), [((11, 1), [((1, 0), [((3, 0), [((12, 0), [((13, 0), [((14, 2), [((15, 0), ())])])])]), ((12, 0), [((3, 0), [((13, 0), [((14, 2), [((15, 0), ())])])]), ((13, 0), [((3, 1), [((14, 2), [((15, 0), ())])])])])]), ((3, 0), [((1, 0), [((12, 0), [((13, 0), [((14, 2), [((15, 0), ())])])])]), ((12, 0), [((1, 0), [((13, 0), [((14, 2), [((15, 0), ())])])]), ((13, 0), [((1, 1), [((14, 2), [((15, 0), ())])])])])]), ((12, 0), [((1, 0), [((3, 0), [((13, 0), [((14, 2), [((15, 0), ())])])]), ((13, 0), [((3, 1), [((14, 2), [((15, 0), ())])])])]), ((3, 0), [((1, 0), [((13, 0), [((14, 2), [((15, 0), ())])])]), ((13, 0), [((1, 1), [((14, 2), [((15, 0), ())])])])]), ((13, 0), [((1, 1), [((3, 1), [((14, 2), [((15, 0), ())])])])])])])])])])])])])])])])] (by kernel_rfl) (by kernel_rfl) ?_
      refine w_p rfl (fun _ _ => ok_fieldAddr (fld rfl) rfl ⟨rfl, rfl, rfl⟩) ?_
      refine w_p rfl (fun _ _ => ok_fieldAddr (fld rfl) rfl ⟨rfl, rfl, rfl⟩) ?_
      refine w_p rfl (fun _ _ => ok_fieldAddr (fld rfl) rfl ⟨rfl, rfl, rfl⟩) ?_
      refine w_r rfl (fun _ _ hExt => ok_load (ty rfl) rfl (hExt _ _ hg) (by rfl) ⟨rfl, rfl, rfl⟩) ?_
      refine w_p rfl (fun _ _ => ok_fieldAddr (fld rfl) rfl ⟨rfl, rfl, rfl⟩) ?_
      refine w_r rfl (fun _ _ hExt => ok_load (ty rfl) rfl (hExt _ _ he) (by rfl) ⟨rfl, rfl, rfl⟩) ?_
      refine w_p rfl (fun _ _ => ok_indexAddr (sl rfl) (ty rfl) rfl rfl (by omega) (by omega) (off := (0 + f)) (by omega) ⟨rfl, rfl, rfl⟩) ?_
      refine w_r rfl (fun _ _ hExt => ok_load (ty rfl) rfl (hExt _ _ hs) (by rw [Nat.zero_add]; exact hva) ⟨rfl, rfl, rfl⟩) ?_
      refine w_p rfl (fun _ _ => ok_fieldAddr (fld rfl) rfl ⟨rfl, rfl, rfl⟩) ?_
      refine w_r rfl (fun _ _ hExt => ok_load (ty rfl) rfl (hExt _ _ he) (by rfl) ⟨rfl, rfl, rfl⟩) ?_
      refine w_cons ?_ (w_cons ?_ (w_cons ?_ (w_none)))
      · skip
        refine w_e rfl (ok_load (ty rfl) rfl hg (by rfl) ⟨⟨rfl, rfl⟩, ?_⟩)
        refine w_cons ?_ (w_cons ?_ (w_none))
        · skip
          refine w_e rfl (ok_load (ty rfl) rfl he (by rfl) ⟨⟨rfl, rfl⟩, ?_⟩)
          refine w_e rfl (ok_buildSlice (sl rfl) (ty rfl) rfl (vs := #[.int .i64 (t : Int)]) (by kernel_rfl) (by decide) (by decide) (fun hN37 => ⟨.inr ⟨_, rfl, rfl⟩, ?_⟩))
          have hS := hS.fresh (hN37 _ (Nat.le_refl _)) (.cells #[.int .i64 (t : Int)] 3 (0, 0))
          have hg := hS.own _ _ g7
          have he := hS.own _ _ gE
          have hs := hS.own _ _ gt
          have own := (hRw.own f hf).ext hS.own
          have hnw := hset_same h2 N2 (.cells #[.int .i64 (t : Int)] 3 (0, 0))
          refine w_e rfl (ok_append rfl (sl rfl) (ty rfl) rfl rfl own rfl hnw (Nat.le_of_ble_eq_true rfl) (by simp [isOne]) (by decide) (by decide) (by omega) (by omega) (fun b' n' c' cs' N3 hcase hcz hnc hln htk _ => ⟨trivial, ?_⟩)); have hG : Grown _ _ b' N3 3 (V f) := hcase; have hS2 := grow_sep hS hRw hf hG (.cells cs' 3 (0, 0)); have hg := hS2.own _ _ (grow_ne hRw hf (hG.or hS.own) g7 (by rfl)); have he := hS2.own _ _ (grow_ne hRw hf (hG.or hS.own) gE (by rfl)); have gt2 := grow_ne (o := .cells cs' 3 (0, 0)) hRw hf (hG.or hS.own) gt (by rfl); have hs := hS2.own _ _ gt2
          refine w_p rfl (fun _ _ => ok_indexAddr (sl rfl) (ty rfl) rfl rfl (by omega) (by omega) (off := f) (by omega) ⟨rfl, rfl, rfl⟩) ?_
          refine w_e0 rfl (ok_store (ty rfl) rfl (v := .slice _ _ _) rfl rfl hs (by omega) ⟨trivial, ?_⟩)
          refine w_nil ?_
          obtain ⟨m', V', hS3, hRw3, hk3⟩ := rows_app hS hRw hf hG hcz hnc hln htk gt; exact n_block ⟨⟨hS3.oth _ _ ((hset_ne _ _ (by omega)).trans (hset_same _ _ _)), by rw [hRd]; exact hS3.oth _ _ (hset_same _ _ _)⟩, m', V', hS3.dropX (((Ext.refl s.2).fresh a4 _).fresh a3 _), hS3.notm (hset_same _ _ _), hS3.notm ((hset_ne _ _ (by omega)).trans (hset_same _ _ _)), a3, a4, a5, hk3 _ _ _ _ g6 rfl rfl, hk3 _ _ _ _ g7 rfl rfl, hRw3⟩
        · skip
          refine w_e rfl (ok_buildSlice (sl rfl) (ty rfl) rfl (vs := #[.int .i64 (t : Int)]) (by kernel_rfl) (by decide) (by decide) (fun hN37 => ⟨.inr ⟨_, rfl, rfl⟩, ?_⟩))
          have hS := hS.fresh (hN37 _ (Nat.le_refl _)) (.cells #[.int .i64 (t : Int)] 3 (0, 0))
          have hg := hS.own _ _ g7
          have he := hS.own _ _ gE
          have hs := hS.own _ _ gt
          have own := (hRw.own f hf).ext hS.own
          have hnw := hset_same h2 N2 (.cells #[.int .i64 (t : Int)] 3 (0, 0))
          refine w_cons ?_ (w_cons ?_ (w_none))
          · skip
            refine w_e rfl (ok_load (ty rfl) rfl he (by rfl) ⟨⟨rfl, rfl⟩, ?_⟩)
            refine w_e rfl (ok_append rfl (sl rfl) (ty rfl) rfl rfl own rfl hnw (Nat.le_of_ble_eq_true rfl) (by simp [isOne]) (by decide) (by decide) (by omega) (by omega) (fun b' n' c' cs' N3 hcase hcz hnc hln htk _ => ⟨trivial, ?_⟩)); have hG : Grown _ _ b' N3 3 (V f) := hcase; have hS2 := grow_sep hS hRw hf hG (.cells cs' 3 (0, 0)); have hg := hS2.own _ _ (grow_ne hRw hf (hG.or hS.own) g7 (by rfl)); have he := hS2.own _ _ (grow_ne hRw hf (hG.or hS.own) gE (by rfl)); have gt2 := grow_ne (o := .cells cs' 3 (0, 0)) hRw hf (hG.or hS.own) gt (by rfl); have hs := hS2.own _ _ gt2
            refine w_p rfl (fun _ _ => ok_indexAddr (sl rfl) (ty rfl) rfl rfl (by omega) (by omega) (off := f) (by omega) ⟨rfl, rfl, rfl⟩) ?_
            refine w_e0 rfl (ok_store (ty rfl) rfl (v := .slice _ _ _) rfl rfl hs (by omega) ⟨trivial, ?_⟩)
            refine w_nil ?_
            obtain ⟨m', V', hS3, hRw3, hk3⟩ := rows_app hS hRw hf hG hcz hnc hln htk gt; exact n_block ⟨⟨hS3.oth _ _ ((hset_ne _ _ (by omega)).trans (hset_same _ _ _)), by rw [hRd]; exact hS3.oth _ _ (hset_same _ _ _)⟩, m', V', hS3.dropX (((Ext.refl s.2).fresh a4 _).fresh a3 _), hS3.notm (hset_same _ _ _), hS3.notm ((hset_ne _ _ (by omega)).trans (hset_same _ _ _)), a3, a4, a5, hk3 _ _ _ _ g6 rfl rfl, hk3 _ _ _ _ g7 rfl rfl, hRw3⟩
          · skip
            refine w_e rfl (ok_append rfl (sl rfl) (ty rfl) rfl rfl own rfl hnw (Nat.le_of_ble_eq_true rfl) (by simp [isOne]) (by decide) (by decide) (by omega) (by omega) (fun b' n' c' cs' N3 hcase hcz hnc hln htk _ => ⟨trivial, ?_⟩)); have hG : Grown _ _ b' N3 3 (V f) := hcase; have hS2 := grow_sep hS hRw hf hG (.cells cs' 3 (0, 0)); have hg := hS2.own _ _ (grow_ne hRw hf (hG.or hS.own) g7 (by rfl)); have he := hS2.own _ _ (grow_ne hRw hf (hG.or hS.own) gE (by rfl)); have gt2 := grow_ne (o := .cells cs' 3 (0, 0)) hRw hf (hG.or hS.own) gt (by rfl); have hs := hS2.own _ _ gt2
            refine w_r rfl (fun _ _ hExt => ok_load (ty rfl) rfl (hExt _ _ he) (by rfl) ⟨rfl, rfl, rfl⟩) ?_
            refine w_p rfl (fun _ _ => ok_indexAddr (sl rfl) (ty rfl) rfl rfl (by omega) (by omega) (off := f) (by omega) ⟨rfl, rfl, rfl⟩) ?_
            refine w_e0 rfl (ok_store (ty rfl) rfl (v := .slice _ _ _) rfl rfl hs (by omega) ⟨trivial, ?_⟩)
            refine w_nil ?_
            obtain ⟨m', V', hS3, hRw3, hk3⟩ := rows_app hS hRw hf hG hcz hnc hln htk gt; exact n_block ⟨⟨hS3.oth _ _ ((hset_ne _ _ (by omega)).trans (hset_same _ _ _)), by rw [hRd]; exact hS3.oth _ _ (hset_same _ _ _)⟩, m', V', hS3.dropX (((Ext.refl s.2).fresh a4 _).fresh a3 _), hS3.notm (hset_same _ _ _), hS3.notm ((hset_ne _ _ (by omega)).trans (hset_same _ _ _)), a3, a4, a5, hk3 _ _ _ _ g6 rfl rfl, hk3 _ _ _ _ g7 rfl rfl, hRw3⟩
      · skip
        refine w_e rfl (ok_load (ty rfl) rfl he (by rfl) ⟨⟨rfl, rfl⟩, ?_⟩)
        refine w_cons ?_ (w_cons ?_ (w_none))
        · skip
          refine w_e rfl (ok_load (ty rfl) rfl hg (by rfl) ⟨⟨rfl, rfl⟩, ?_⟩)
          refine w_e rfl (ok_buildSlice (sl rfl) (ty rfl) rfl (vs := #[.int .i64 (t : Int)]) (by kernel_rfl) (by decide) (by decide) (fun hN37 => ⟨.inr ⟨_, rfl, rfl⟩, ?_⟩))
          have hS := hS.fresh (hN37 _ (Nat.le_refl _)) (.cells #[.int .i64 (t : Int)] 3 (0, 0))
          have hg := hS.own _ _ g7
          have he := hS.own _ _ gE
          have hs := hS.own _ _ gt
          have own := (hRw.own f hf).ext hS.own
          have hnw := hset_same h2 N2 (.cells #[.int .i64 (t : Int)] 3 (0, 0))
          refine w_e rfl (ok_append rfl (sl rfl) (ty rfl) rfl rfl own rfl hnw (Nat.le_of_ble_eq_true rfl) (by simp [isOne]) (by decide) (by decide) (by omega) (by omega) (fun b' n' c' cs' N3 hcase hcz hnc hln htk _ => ⟨trivial, ?_⟩)); have hG : Grown _ _ b' N3 3 (V f) := hcase; have hS2 := grow_sep hS hRw hf hG (.cells cs' 3 (0, 0)); have hg := hS2.own _ _ (grow_ne hRw hf (hG.or hS.own) g7 (by rfl)); have he := hS2.own _ _ (grow_ne hRw hf (hG.or hS.own) gE (by rfl)); have gt2 := grow_ne (o := .cells cs' 3 (0, 0)) hRw hf (hG.or hS.own) gt (by rfl); have hs := hS2.own _ _ gt2
          refine w_p rfl (fun _ _ => ok_indexAddr (sl rfl) (ty rfl) rfl rfl (by omega) (by omega) (off := f) (by omega) ⟨rfl, rfl, rfl⟩) ?_
          refine w_e0 rfl (ok_store (ty rfl) rfl (v := .slice _ _ _) rfl rfl hs (by omega) ⟨trivial, ?_⟩)
          refine w_nil ?_
          obtain ⟨m', V', hS3, hRw3, hk3⟩ := rows_app hS hRw hf hG hcz hnc hln htk gt; exact n_block ⟨⟨hS3.oth _ _ ((hset_ne _ _ (by omega)).trans (hset_same _ _ _)), by rw [hRd]; exact hS3.oth _ _ (hset_same _ _ _)⟩, m', V', hS3.dropX (((Ext.refl s.2).fresh a4 _).fresh a3 _), hS3.notm (hset_same _ _ _), hS3.notm ((hset_ne _ _ (by omega)).trans (hset_same _ _ _)), a3, a4, a5, hk3 _ _ _ _ g6 rfl rfl, hk3 _ _ _ _ g7 rfl rfl, hRw3⟩
        · skip
          refine w_e rfl (ok_buildSlice (sl rfl) (ty rfl) rfl (vs := #[.int .i64 (t : Int)]) (by kernel_rfl) (by decide) (by decide) (fun hN37 => ⟨.inr ⟨_, rfl, rfl⟩, ?_⟩))
          have hS := hS.fresh (hN37 _ (Nat.le_refl _)) (.cells #[.int .i64 (t : Int)] 3 (0, 0))
          have hg := hS.own _ _ g7
          have he := hS.own _ _ gE
          have hs := hS.own _ _ gt
          have own := (hRw.own f hf).ext hS.own
          have hnw := hset_same h2 N2 (.cells #[.int .i64 (t : Int)] 3 (0, 0))
          refine w_cons ?_ (w_cons ?_ (w_none))
          · skip
            refine w_e rfl (ok_load (ty rfl) rfl hg (by rfl) ⟨⟨rfl, rfl⟩, ?_⟩)
            refine w_e rfl (ok_append rfl (sl rfl) (ty rfl) rfl rfl own rfl hnw (Nat.le_of_ble_eq_true rfl) (by simp [isOne]) (by decide) (by decide) (by omega) (by omega) (fun b' n' c' cs' N3 hcase hcz hnc hln htk _ => ⟨trivial, ?_⟩)); have hG : Grown _ _ b' N3 3 (V f) := hcase; have hS2 := grow_sep hS hRw hf hG (.cells cs' 3 (0, 0)); have hg := hS2.own _ _ (grow_ne hRw hf (hG.or hS.own) g7 (by rfl)); have he := hS2.own _ _ (grow_ne hRw hf (hG.or hS.own) gE (by rfl)); have gt2 := grow_ne (o := .cells cs' 3 (0, 0)) hRw hf (hG.or hS.own) gt (by rfl); have hs := hS2.own _ _ gt2
            refine w_p rfl (fun _ _ => ok_indexAddr (sl rfl) (ty rfl) rfl rfl (by omega) (by omega) (off := f) (by omega) ⟨rfl, rfl, rfl⟩) ?_
            refine w_e0 rfl (ok_store (ty rfl) rfl (v := .slice _ _ _) rfl rfl hs (by omega) ⟨trivial, ?_⟩)
            refine w_nil ?_
            obtain ⟨m', V', hS3, hRw3, hk3⟩ := rows_app hS hRw hf hG hcz hnc hln htk gt; exact n_block ⟨⟨hS3.oth _ _ ((hset_ne _ _ (by omega)).trans (hset_same _ _ _)), by rw [hRd]; exact hS3.oth _ _ (hset_same _ _ _)⟩, m', V', hS3.dropX (((Ext.refl s.2).fresh a4 _).fresh a3 _), hS3.notm (hset_same _ _ _), hS3.notm ((hset_ne _ _ (by omega)).trans (hset_same _ _ _)), a3, a4, a5, hk3 _ _ _ _ g6 rfl rfl, hk3 _ _ _ _ g7 rfl rfl, hRw3⟩
          · skip
            refine w_e rfl (ok_append rfl (sl rfl) (ty rfl) rfl rfl own rfl hnw (Nat.le_of_ble_eq_true rfl) (by simp [isOne]) (by decide) (by decide) (by omega) (by omega) (fun b' n' c' cs' N3 hcase hcz hnc hln htk _ => ⟨trivial, ?_⟩)); have hG : Grown _ _ b' N3 3 (V f) := hcase; have hS2 := grow_sep hS hRw hf hG (.cells cs' 3 (0, 0)); have hg := hS2.own _ _ (grow_ne hRw hf (hG.or hS.own) g7 (by rfl)); have he := hS2.own _ _ (grow_ne hRw hf (hG.or hS.own) gE (by rfl)); have gt2 := grow_ne (o := .cells cs' 3 (0, 0)) hRw hf (hG.or hS.own) gt (by rfl); have hs := hS2.own _ _ gt2
            refine w_r rfl (fun _ _ hExt => ok_load (ty rfl) rfl (hExt _ _ hg) (by rfl) ⟨rfl, rfl, rfl⟩) ?_
            refine w_p rfl (fun _ _ => ok_indexAddr (sl rfl) (ty rfl) rfl rfl (by omega) (by omega) (off := f) (by omega) ⟨rfl, rfl, rfl⟩) ?_
            refine w_e0 rfl (ok_store (ty rfl) rfl (v := .slice _ _ _) rfl rfl hs (by omega) ⟨trivial, ?_⟩)
            refine w_nil ?_
            obtain ⟨m', V', hS3, hRw3, hk3⟩ := rows_app hS hRw hf hG hcz hnc hln htk gt; exact n_block ⟨⟨hS3.oth _ _ ((hset_ne _ _ (by omega)).trans (hset_same _ _ _)), by rw [hRd]; exact hS3.oth _ _ (hset_same _ _ _)⟩, m', V', hS3.dropX (((Ext.refl s.2).fresh a4 _).fresh a3 _), hS3.notm (hset_same _ _ _), hS3.notm ((hset_ne _ _ (by omega)).trans (hset_same _ _ _)), a3, a4, a5, hk3 _ _ _ _ g6 rfl rfl, hk3 _ _ _ _ g7 rfl rfl, hRw3⟩
      · skip
        refine w_e rfl (ok_buildSlice (sl rfl) (ty rfl) rfl (vs := #[.int .i64 (t : Int)]) (by kernel_rfl) (by decide) (by decide) (fun hN37 => ⟨.inr ⟨_, rfl, rfl⟩, ?_⟩))
        have hS := hS.fresh (hN37 _ (Nat.le_refl _)) (.cells #[.int .i64 (t : Int)] 3 (0, 0))
        have hg := hS.own _ _ g7
        have he := hS.own _ _ gE
        have hs := hS.own _ _ gt
        have own := (hRw.own f hf).ext hS.own
        have hnw := hset_same h2 N2 (.cells #[.int .i64 (t : Int)] 3 (0, 0))
        refine w_cons ?_ (w_cons ?_ (w_cons ?_ (w_none)))
        · skip
          refine w_e rfl (ok_load (ty rfl) rfl hg (by rfl) ⟨⟨rfl, rfl⟩, ?_⟩)
          refine w_cons ?_ (w_cons ?_ (w_none))
          · skip
            refine w_e rfl (ok_load (ty rfl) rfl he (by rfl) ⟨⟨rfl, rfl⟩, ?_⟩)
            refine w_e rfl (ok_append rfl (sl rfl) (ty rfl) rfl rfl own rfl hnw (Nat.le_of_ble_eq_true rfl) (by simp [isOne]) (by decide) (by decide) (by omega) (by omega) (fun b' n' c' cs' N3 hcase hcz hnc hln htk _ => ⟨trivial, ?_⟩)); have hG : Grown _ _ b' N3 3 (V f) := hcase; have hS2 := grow_sep hS hRw hf hG (.cells cs' 3 (0, 0)); have hg := hS2.own _ _ (grow_ne hRw hf (hG.or hS.own) g7 (by rfl)); have he := hS2.own _ _ (grow_ne hRw hf (hG.or hS.own) gE (by rfl)); have gt2 := grow_ne (o := .cells cs' 3 (0, 0)) hRw hf (hG.or hS.own) gt (by rfl); have hs := hS2.own _ _ gt2
            refine w_p rfl (fun _ _ => ok_indexAddr (sl rfl) (ty rfl) rfl rfl (by omega) (by omega) (off := f) (by omega) ⟨rfl, rfl, rfl⟩) ?_
            refine w_e0 rfl (ok_store (ty rfl) rfl (v := .slice _ _ _) rfl rfl hs (by omega) ⟨trivial, ?_⟩)
            refine w_nil ?_
            obtain ⟨m', V', hS3, hRw3, hk3⟩ := rows_app hS hRw hf hG hcz hnc hln htk gt; exact n_block ⟨⟨hS3.oth _ _ ((hset_ne _ _ (by omega)).trans (hset_same _ _ _)), by rw [hRd]; exact hS3.oth _ _ (hset_same _ _ _)⟩, m', V', hS3.dropX (((Ext.refl s.2).fresh a4 _).fresh a3 _), hS3.notm (hset_same _ _ _), hS3.notm ((hset_ne _ _ (by omega)).trans (hset_same _ _ _)), a3, a4, a5, hk3 _ _ _ _ g6 rfl rfl, hk3 _ _ _ _ g7 rfl rfl, hRw3⟩
          · skip
            refine w_e rfl (ok_append rfl (sl rfl) (ty rfl) rfl rfl own rfl hnw (Nat.le_of_ble_eq_true rfl) (by simp [isOne]) (by decide) (by decide) (by omega) (by omega) (fun b' n' c' cs' N3 hcase hcz hnc hln htk _ => ⟨trivial, ?_⟩)); have hG : Grown _ _ b' N3 3 (V f) := hcase; have hS2 := grow_sep hS hRw hf hG (.cells cs' 3 (0, 0)); have hg := hS2.own _ _ (grow_ne hRw hf (hG.or hS.own) g7 (by rfl)); have he := hS2.own _ _ (grow_ne hRw hf (hG.or hS.own) gE (by rfl)); have gt2 := grow_ne (o := .cells cs' 3 (0, 0)) hRw hf (hG.or hS.own) gt (by rfl); have hs := hS2.own _ _ gt2
            refine w_r rfl (fun _ _ hExt => ok_load (ty rfl) rfl (hExt _ _ he) (by rfl) ⟨rfl, rfl, rfl⟩) ?_
            refine w_p rfl (fun _ _ => ok_indexAddr (sl rfl) (ty rfl) rfl rfl (by omega) (by omega) (off := f) (by omega) ⟨rfl, rfl, rfl⟩) ?_
            refine w_e0 rfl (ok_store (ty rfl) rfl (v := .slice _ _ _) rfl rfl hs (by omega) ⟨trivial, ?_⟩)
            refine w_nil ?_
            obtain ⟨m', V', hS3, hRw3, hk3⟩ := rows_app hS hRw hf hG hcz hnc hln htk gt; exact n_block ⟨⟨hS3.oth _ _ ((hset_ne _ _ (by omega)).trans (hset_same _ _ _)), by rw [hRd]; exact hS3.oth _ _ (hset_same _ _ _)⟩, m', V', hS3.dropX (((Ext.refl s.2).fresh a4 _).fresh a3 _), hS3.notm (hset_same _ _ _), hS3.notm ((hset_ne _ _ (by omega)).trans (hset_same _ _ _)), a3, a4, a5, hk3 _ _ _ _ g6 rfl rfl, hk3 _ _ _ _ g7 rfl rfl, hRw3⟩
        · skip
          refine w_e rfl (ok_load (ty rfl) rfl he (by rfl) ⟨⟨rfl, rfl⟩, ?_⟩)
          refine w_cons ?_ (w_cons ?_ (w_none))
          · skip
            refine w_e rfl (ok_load (ty rfl) rfl hg (by rfl) ⟨⟨rfl, rfl⟩, ?_⟩)
            refine w_e rfl (ok_append rfl (sl rfl) (ty rfl) rfl rfl own rfl hnw (Nat.le_of_ble_eq_true rfl) (by simp [isOne]) (by decide) (by decide) (by omega) (by omega) (fun b' n' c' cs' N3 hcase hcz hnc hln htk _ => ⟨trivial, ?_⟩)); have hG : Grown _ _ b' N3 3 (V f) := hcase; have hS2 := grow_sep hS hRw hf hG (.cells cs' 3 (0, 0)); have hg := hS2.own _ _ (grow_ne hRw hf (hG.or hS.own) g7 (by rfl)); have he := hS2.own _ _ (grow_ne hRw hf (hG.or hS.own) gE (by rfl)); have gt2 := grow_ne (o := .cells cs' 3 (0, 0)) hRw hf (hG.or hS.own) gt (by rfl); have hs := hS2.own _ _ gt2
            refine w_p rfl (fun _ _ => ok_indexAddr (sl rfl) (ty rfl) rfl rfl (by omega) (by omega) (off := f) (by omega) ⟨rfl, rfl, rfl⟩) ?_
            refine w_e0 rfl (ok_store (ty rfl) rfl (v := .slice _ _ _) rfl rfl hs (by omega) ⟨trivial, ?_⟩)
            refine w_nil ?_
            obtain ⟨m', V', hS3, hRw3, hk3⟩ := rows_app hS hRw hf hG hcz hnc hln htk gt; exact n_block ⟨⟨hS3.oth _ _ ((hset_ne _ _ (by omega)).trans (hset_same _ _ _)), by rw [hRd]; exact hS3.oth _ _ (hset_same _ _ _)⟩, m', V', hS3.dropX (((Ext.refl s.2).fresh a4 _).fresh a3 _), hS3.notm (hset_same _ _ _), hS3.notm ((hset_ne _ _ (by omega)).trans (hset_same _ _ _)), a3, a4, a5, hk3 _ _ _ _ g6 rfl rfl, hk3 _ _ _ _ g7 rfl rfl, hRw3⟩
          · skip
            refine w_e rfl (ok_append rfl (sl rfl) (ty rfl) rfl rfl own rfl hnw (Nat.le_of_ble_eq_true rfl) (by simp [isOne]) (by decide) (by decide) (by omega) (by omega) (fun b' n' c' cs' N3 hcase hcz hnc hln htk _ => ⟨trivial, ?_⟩)); have hG : Grown _ _ b' N3 3 (V f) := hcase; have hS2 := grow_sep hS hRw hf hG (.cells cs' 3 (0, 0)); have hg := hS2.own _ _ (grow_ne hRw hf (hG.or hS.own) g7 (by rfl)); have he := hS2.own _ _ (grow_ne hRw hf (hG.or hS.own) gE (by rfl)); have gt2 := grow_ne (o := .cells cs' 3 (0, 0)) hRw hf (hG.or hS.own) gt (by rfl); have hs := hS2.own _ _ gt2
            refine w_r rfl (fun _ _ hExt => ok_load (ty rfl) rfl (hExt _ _ hg) (by rfl) ⟨rfl, rfl, rfl⟩) ?_
            refine w_p rfl (fun _ _ => ok_indexAddr (sl rfl) (ty rfl) rfl rfl (by omega) (by omega) (off := f) (by omega) ⟨rfl, rfl, rfl⟩) ?_
            refine w_e0 rfl (ok_store (ty rfl) rfl (v := .slice _ _ _) rfl rfl hs (by omega) ⟨trivial, ?_⟩)
            refine w_nil ?_
            obtain ⟨m', V', hS3, hRw3, hk3⟩ := rows_app hS hRw hf hG hcz hnc hln htk gt; exact n_block ⟨⟨hS3.oth _ _ ((hset_ne _ _ (by omega)).trans (hset_same _ _ _)), by rw [hRd]; exact hS3.oth _ _ (hset_same _ _ _)⟩, m', V', hS3.dropX (((Ext.refl s.2).fresh a4 _).fresh a3 _), hS3.notm (hset_same _ _ _), hS3.notm ((hset_ne _ _ (by omega)).trans (hset_same _ _ _)), a3, a4, a5, hk3 _ _ _ _ g6 rfl rfl, hk3 _ _ _ _ g7 rfl rfl, hRw3⟩
        · skip
          refine w_e rfl (ok_append rfl (sl rfl) (ty rfl) rfl rfl own rfl hnw (Nat.le_of_ble_eq_true rfl) (by simp [isOne]) (by decide) (by decide) (by omega) (by omega) (fun b' n' c' cs' N3 hcase hcz hnc hln htk _ => ⟨trivial, ?_⟩)); have hG : Grown _ _ b' N3 3 (V f) := hcase; have hS2 := grow_sep hS hRw hf hG (.cells cs' 3 (0, 0)); have hg := hS2.own _ _ (grow_ne hRw hf (hG.or hS.own) g7 (by rfl)); have he := hS2.own _ _ (grow_ne hRw hf (hG.or hS.own) gE (by rfl)); have gt2 := grow_ne (o := .cells cs' 3 (0, 0)) hRw hf (hG.or hS.own) gt (by rfl); have hs := hS2.own _ _ gt2
          refine w_r rfl (fun _ _ hExt => ok_load (ty rfl) rfl (hExt _ _ hg) (by rfl) ⟨rfl, rfl, rfl⟩) ?_
          refine w_r rfl (fun _ _ hExt => ok_load (ty rfl) rfl (hExt _ _ he) (by rfl) ⟨rfl, rfl, rfl⟩) ?_
          refine w_p rfl (fun _ _ => ok_indexAddr (sl rfl) (ty rfl) rfl rfl (by omega) (by omega) (off := f) (by omega) ⟨rfl, rfl, rfl⟩) ?_
          refine w_e0 rfl (ok_store (ty rfl) rfl (v := .slice _ _ _) rfl rfl hs (by omega) ⟨trivial, ?_⟩)
          refine w_nil ?_
          obtain ⟨m', V', hS3, hRw3, hk3⟩ := rows_app hS hRw hf hG hcz hnc hln htk gt; exact n_block ⟨⟨hS3.oth _ _ ((hset_ne _ _ (by omega)).trans (hset_same _ _ _)), by rw [hRd]; exact hS3.oth _ _ (hset_same _ _ _)⟩, m', V', hS3.dropX (((Ext.refl s.2).fresh a4 _).fresh a3 _), hS3.notm (hset_same _ _ _), hS3.notm ((hset_ne _ _ (by omega)).trans (hset_same _ _ _)), a3, a4, a5, hk3 _ _ _ _ g6 rfl rfl, hk3 _ _ _ _ g7 rfl rfl, hRw3⟩
    · intro Rc hRd hYl hlive
      have hl0 : ∀ (s : (Nat → List Nat) × Hp) (h' : Hp) (N' : Nat), Live (fun (s : (Nat → List Nat) × Hp) h' (_ : Nat) => ∃ m V, Sep m s.2 h' ∧ m N1 = none ∧ m (N1 + 1) = none ∧ s.2 N1 = none ∧ s.2 (N1 + 1) = none ∧ Ext h s.2 ∧ m N = some (.cells #[.slice none 0 0, .slice none 0 0, .slice none 0 0, .slice none 0 0, .slice none 0 0] 69 (0, 0)) ∧ m (N + 1 + 1) = some (.cells (gcells an n nc (N + 1)) 69 (0, 0)) ∧ Rows m (N + 1) n V s.1) (N1 + 1) Rc s h' N' → h' N1 = some (.deferred (some [])) := fun s h' N' hv => by have := hv.2.2; rw [hRd] at this; exact this
      refine (allIter_ok (J := fun S X h' N' => Live (fun (s : (Nat → List Nat) × Hp) h' (_ : Nat) => ∃ m V, Sep m s.2 h' ∧ m N1 = none ∧ m (N1 + 1) = none ∧ s.2 N1 = none ∧ s.2 (N1 + 1) = none ∧ Ext h s.2 ∧ m N = some (.cells #[.slice none 0 0, .slice none 0 0, .slice none 0 0, .slice none 0 0, .slice none 0 0] 69 (0, 0)) ∧ m (N + 1 + 1) = some (.cells (gcells an n nc (N + 1)) 69 (0, 0)) ∧ Rows m (N + 1) n V s.1) (N1 + 1) Rc (S, X) h' N') (Jx := fun h' N' => Stopped (fun _ _ _ => False) (N1 + 1) Rc h' N') (Y := h) (hE.ext hY) (hY _ _ hbb) (by omega) ?_ ?_ ?_ ?_ hlive (Ext.refl h)).mono ?_
      · rintro S X h' N' ⟨⟨m, V, hS, _⟩, _⟩; exact hS.oth
      · rintro S X h' N' N'' b o hv hb
        have hd := hl0 _ _ _ hv
        obtain ⟨⟨m, V, hS, a1, a2, a3, a4, a5, a6⟩, hl, _⟩ := hv
        have n1 := ne_of_none hd hb
        have n2 := ne_of_none hl hb
        exact ⟨⟨m, V, hS.newX hb o, a1, a2, (hset_ne _ _ n1).trans a3, (hset_ne _ _ n2).trans a4, a5.fresh (a5.back (hS.oth.back hb)) _, a6⟩, (hset_ne _ _ n2).trans hl, by rw [hRd]; exact (hset_ne _ _ n1).trans hd⟩
      · rintro S X h' N' b o o' hv hb hyb
        have hd := hl0 _ _ _ hv
        obtain ⟨⟨m, V, hS, a1, a2, a3, a4, a5, a6⟩, hl, _⟩ := hv
        have n1 : N1 ≠ b := fun e => by rw [← e] at hb; have a3' : X N1 = none := a3; rw [a3'] at hb; cases hb
        have n2 : N1 + 1 ≠ b := fun e => by rw [← e] at hb; have a4' : X (N1 + 1) = none := a4; rw [a4'] at hb; cases hb
        exact ⟨⟨m, V, hS.setX hb o, a1, a2, (hset_ne _ _ n1).trans a3, (hset_ne _ _ n2).trans a4, a5.fresh hyb _, a6⟩, (hset_ne _ _ n2).trans hl, by rw [hRd]; exact (hset_ne _ _ n1).trans hd⟩
      · rintro S X h' N' f t hv hf ht hlen
        exact hYl (S, X) _ (ap S f t, X) h' N' ⟨f, t, hf, ht, hlen, rfl, rfl⟩ hv
      · rintro v h' N' (⟨S, X, hp, hv⟩ | hx)
        · exact .inl ⟨(S, X), hp, hv⟩
        · exact .inr hx
    · rintro s h' N' hfin ⟨m, V, hS, a1, a2, a3, a4, a5, g6, g7, hRw⟩ hd
      exact n_then ⟨⟨rfl, rfl, rfl, trivial⟩, N1, rfl, hS0.oth.back fd, hd, m, V, s.1, a1, hS.dropX a5, g6, g7, hRw, hfin⟩
    · intro _ _ _ x; exact x.elim
  clear hS0 g6 g7 hRw hS
  rintro E h2 N2 D ⟨hEr, dn, rfl, hdn, gd, m, V, S, hmd, hS, g6, g7, hRw, hperm⟩
  obtain ⟨E1, rfl⟩ := hEr.ex
  refine n_block (n_then ?_)
  refine c_seq ?_
  refine c_seq ?_
  refine c_region (by kernel_rfl) ?_
  refine st_q (ok_fieldAddr (fld rfl) rfl ⟨rfl, rfl, rfl⟩) ?_
  refine st_q (ok_load (ty rfl) rfl (hS.own _ _ g7) (by rfl) ⟨rfl, rfl, rfl⟩) ?_
  refine st_q (ok_len (sl rfl) rfl ⟨rfl, rfl, rfl⟩) ?_
  refine st_q (ok_move (v := .int _ _) rfl ⟨rfl, rfl, rfl⟩) ?_
  refine o_nil ?_
  refine n_then ?_
  refine c_block ?_
  have hS : Sep m (hset h dn (.deferred (some []))) h2 := hS.takeX gd hmd
  clear hmd gd
  refine c_loop (fun k E h' _ D => D = [{ target := .collected dn, args := #[] }] ∧ k ≤ n ∧ Fr E [(2, .slice none 0 0), (6, .pointer (some ⟨N, 0, none⟩)), (7, .pointer (some ⟨N + 1 + 1, 0, none⟩)), (41, .slice (some ⟨N + 1, 0, none⟩) n n), (42, .int .i64 (n : Int)), (43, .int .i64 ((n - k : Nat) : Int))] ∧ ∃ m V S, Sep m (hset h dn (.deferred (some []))) h' ∧ m N = some (.cells #[.slice none 0 0, .slice none 0 0, .slice none 0 0, .slice none 0 0, .slice none 0 0] 69 (0, 0)) ∧ m (N + 1 + 1) = some (.cells (gcells an n nc (N + 1)) 69 (0, 0)) ∧ Rows m (N + 1) n V S ∧ ∀ i, i < n → (S i).Perm (R i)) (k := n) ⟨rfl, Nat.le_refl _, ⟨rfl, rfl, rfl, rfl, rfl, by simp [upd], trivial⟩, m, V, S, hS, g6, g7, hRw, hperm⟩ ?_
  clear hS g6 g7 hRw hperm
  rintro k E h3 N3 D ⟨rfl, hk, hEr, m, V, S, hS, g6, g7, hRw, hperm⟩
  obtain ⟨E2, rfl⟩ := hEr.ex
  refine c_seq ?_
  refine c_region (by kernel_rfl) ?_
  refine st_q (ok_lss rfl rfl ⟨rfl, rfl, rfl⟩) ?_
  refine o_nil ?_
  refine n_then ?_
  refine c_seq ?_
  refine c_cond_prop rfl (fun hc => ?_) (fun hc => ?_)
  · skip
    generalize hi : n - k = i at *
    have hin : i < n := by omega
    obtain ⟨vs, gt, gtn, gtv⟩ := hRw.top
    have own := hRw.own i hin
    have hpi := hperm i hin
    have hlS : (S i).length ≤ 100 := by rw [hpi.length_eq]; exact hRl i hin
    obtain ⟨ao, cap, hVi, _⟩ := own.row
    have gvi := (gtv i hin).trans (congrArg some hVi)
    refine c_skip ?_
    refine n_then ?_
    refine c_seq ?_
    refine c_block ?_
    refine c_seq ?_
    refine c_region (by kernel_rfl) ?_
    refine st_q (ok_move (v := .int _ _) rfl ⟨rfl, rfl, rfl⟩) ?_
    refine st_q (ok_indexAddr (sl rfl) (ty rfl) rfl rfl (by omega) (by omega) (off := i) (by omega) ⟨rfl, rfl, rfl⟩) ?_
    refine st_q (ok_load (ty rfl) rfl (hS.own _ _ gt) gvi ⟨rfl, rfl, rfl⟩) ?_
    refine st_q (ok_assign (v := .int _ _) rfl ⟨rfl, rfl, rfl⟩) ?_
    refine st_q (ok_assign (v := .slice _ _ _) rfl ⟨rfl, rfl, rfl⟩) ?_
    refine o_nil ?_
    refine n_then ?_
    refine c_seq ?_
    rw [hVi] at own
    refine c_region (by kernel_rfl) ?_
    refine st_q (ok_move (v := .slice _ _ _) rfl ⟨rfl, rfl, rfl⟩) ?_
    refine st (ok_call rfl ent18 (sort_ok hS own (by omega)) rfl ?_)
    rintro _ h4 N4 ⟨rfl, m4, ys, hS4, hys, own4, hm4⟩
    refine o_nil ?_
    have hnb : ∀ x cs t fz, m x = some (.cells cs t fz) → Nat.beq 3 t = false → m4 x = some (.cells cs t fz) := fun x cs t fz hx ht => by
      rw [hm4 x]; exact hx
      intro e
      obtain ⟨cs', hc'⟩ := own.at e
      exact ne_of_ty hc' hx ht rfl
    have hRw4 := hRw.same hin (m' := m4) (ys := ys) (by rw [hVi]; exact own4) (by rw [hVi]; exact hm4)
    have g64 := hnb _ _ _ _ g6 rfl
    have g74 := hnb _ _ _ _ g7 rfl
    have gt4 := hnb _ _ _ _ gt rfl
    have hynd : ys.Nodup := (hys.trans hpi).nodup_iff.2 (hRn i hin)
    have hyl : ys.length ≤ 1000 := by rw [hys.length_eq]; omega
    refine n_then ?_
    refine c_cut (fun E h' _ D => D = [{ target := .collected dn, args := #[] }] ∧ Fr E [(2, .slice none 0 0), (6, .pointer (some ⟨N, 0, none⟩)), (7, .pointer (some ⟨N + 1 + 1, 0, none⟩)), (41, .slice (some ⟨N + 1, 0, none⟩) n n), (42, .int .i64 (n : Int)), (43, .int .i64 (i : Int))] ∧ Sep m4 (hset h dn (.deferred (some []))) h') ?_ ?_
    · skip
      have hself : setA vs i (.slice ao (S i).length cap) = vs := setA_self gvi
      refine c_draw mixed [0, 0, 0, 0, 0, 0, 2] 7 rfl [((0, 2), [((1, 1), [((2, 2), [((3, 2), [((4, 1), [((5, 2), [((6, 0), ())])])])])])])] (by kernel_rfl) (by kernel_rfl) ?_
      refine w_p rfl (fun _ _ => ok_fieldAddr (fld rfl) rfl ⟨rfl, rfl, rfl⟩) ?_
      refine w_r rfl (fun _ _ hExt => ok_load (ty rfl) rfl (hExt _ _ (hS4.own _ _ g74)) (by rfl) ⟨rfl, rfl, rfl⟩) ?_
      refine w_p rfl (fun _ _ => ok_move (v := .int _ _) rfl ⟨rfl, rfl, rfl⟩) ?_
      refine w_p rfl (fun _ _ => ok_move (v := .slice _ _ _) rfl ⟨rfl, rfl, rfl⟩) ?_
      refine w_r rfl (fun h' N' hExt => ok_call rfl ent19 (compact_ok (own4.ext (hS4.own.trans hExt)) hynd hyl) rfl (fun _ _ _ hR => hR)) ?_
      refine w_p rfl (fun _ _ => ok_indexAddr (sl rfl) (ty rfl) rfl rfl (by omega) (by omega) (off := i) (by omega) ⟨rfl, rfl, rfl⟩) ?_
      refine w_e0 rfl (ok_store (ty rfl) rfl (v := .slice _ _ _) rfl rfl (hS4.own _ _ gt4) (by omega) ⟨trivial, ?_⟩)
      refine w_nil ?_
      exact n_then ⟨rfl, ⟨rfl, rfl, rfl, rfl, rfl, rfl, trivial⟩, by exact Eq.mpr (congrArg (fun x => Sep m4 (hset h dn (.deferred (some []))) (hset h4 (N + 1) (.cells x 34 (0, 0)))) hself) (by rw [hset_self (hS4.own _ _ gt4)]; exact hS4)⟩
    clear hS hS4
    rintro E h5 N5 D ⟨rfl, hEr, hS⟩
    obtain ⟨E3, rfl⟩ := hEr.ex
    refine n_block (n_then ?_)
    refine c_region (by kernel_rfl) ?_
    refine st_q (ok_add rfl rfl (by omega) (by omega) ⟨rfl, rfl, rfl⟩) ?_
    refine st_q (ok_move (v := .int _ _) rfl ⟨rfl, rfl, rfl⟩) ?_
    refine o_nil ?_
    refine n_then ⟨k - 1, by omega, rfl, by omega, ⟨rfl, rfl, rfl, rfl, rfl, ?_, trivial⟩, m4, V, _, hS, g64, g74, hRw4, ?_⟩
    · show Value.int .i64 ((i : Int) + 1) = _
      congr 1; omega
    · intro j hj
      by_cases e : j = i
      · subst e; simp only [if_true]; exact hys.trans hpi
      · simp only [e, if_false]; exact hperm j hj
  · skip
    refine c_exit ?_
    refine x_then (x_then (x_block (n_then ?_)))
    refine c_seq ?_
    refine c_seq ?_
    refine c_region (by kernel_rfl) ?_
    refine st_q (ok_move (v := .slice _ _ _) rfl ⟨rfl, rfl, rfl⟩) ?_
    refine st_q (ok_len (sl rfl) rfl ⟨rfl, rfl, rfl⟩) ?_
    refine st_q (ok_gtr_f rfl rfl ((by decide)) ⟨rfl, rfl, rfl⟩) ?_
    refine o_nil ?_
    refine n_then ?_
    refine c_cond_false rfl ?_
    refine c_skip ?_
    refine n_then ?_
    refine c_seq ?_
    refine c_region (by kernel_rfl) ?_
    refine st_q (ok_loadAgg (ty rfl) rfl (hS.own _ _ g7) (Nat.le_of_ble_eq_true rfl) rfl ⟨rfl, rfl, rfl⟩) ?_
    refine st0 (ok_storeL (ty rfl) rfl (v := .agg _) rfl rfl rfl rfl (hS.own _ _ g6) (Nat.le_of_ble_eq_true rfl) ?_)
    refine o_nil ?_
    refine n_then ?_
    refine c_ret ?_
    have hS5 := hS.set g6 (.cells (gcells an n nc (N + 1)) 69 (0, 0))
    have hdX : (hset h3 N (.cells (gcells an n nc (N + 1)) 69 (0, 0))) dn = some (.deferred (some [])) := hS5.oth _ _ (hset_same _ _ _)
    have hNd : N ≠ dn := fun e => by
      have := hS.notm (hset_same h dn (.deferred (some [])))
      rw [← e, g6] at this; cases this
    refine r_leave ⟨dn, rfl, hdX, leave_cell rfl (ty rfl) rfl ((hset_ne _ _ hNd).trans (hset_same _ _ _)) (Nat.le_of_ble_eq_true rfl) rfl ⟨?_, N + 1, V, S, rfl, ?_, hperm⟩⟩
    · have hx1 : Ext h (hset h dn (.deferred (some []))) := (Ext.refl h).fresh hdn _
      exact (hx1.trans hS5.oth).fresh hdn _
    · have hx2 : Ext (hset m N (.cells (gcells an n nc (N + 1)) 69 (0, 0))) (hset (hset h3 N (.cells (gcells an n nc (N + 1)) 69 (0, 0))) dn (.deferred none)) := hS5.own.fresh (hS5.notm (hset_same _ _ _)) _
      refine Rows.ext (hRw.off ?_ ?_) hx2
      · obtain ⟨vs, gt, _⟩ := hRw.top
        exact ne_of_ty gt g6 rfl
      · intro j hj e
        obtain ⟨cs', hc'⟩ := (hRw.own j hj).at e
        exact ne_of_ty hc' g6 rfl rfl
end
end Sx
end Go.Proofs.YbulkcsqkGreat
