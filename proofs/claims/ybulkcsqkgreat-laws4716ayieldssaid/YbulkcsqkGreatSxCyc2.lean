import Derived.Test.YbulkcsqkGreatSxCyc1
import Derived.Test.YbulkcsqkGreatSxLeafA
namespace Go.Proofs.YbulkcsqkGreat
namespace Sx
set_option maxRecDepth 10000
set_option maxHeartbeats 1000000
variable {w0 : World}
section
variable {h m X : Hp} {N : Nat}

/-- What adjacent's closure holds. -/
def AdjC (h : Hp) (lb : Array Value) (v : Value) : Prop :=
  ∃ b0 b1 b2 b3 b4 an n nc bs, ∃ (i : Int) (ah : Bool), lb = #[.pointer (some ⟨b0, 0, none⟩), .pointer (some ⟨b1, 0, none⟩), .pointer (some ⟨b3, 0, none⟩), .pointer (some ⟨b2, 0, none⟩), .pointer (some ⟨b4, 0, none⟩)] ∧
    h b0 = some (.cells (gcells an n nc bs) 69 (0, 0)) ∧ h b1 = some (.cells #[.int .i64 i] 3 (0, 0)) ∧ h b3 = some (.cells #[.bool ah] 4 (0, 0)) ∧ h b2 = some (.cells #[v] 34 (0, 0))
theorem AdjC.ext {h h' : Hp} {lb : Array Value} {v : Value} (ha : AdjC h lb v) (hx : Ext h h') : AdjC h' lb v := by
  obtain ⟨b0, b1, b2, b3, b4, an, n, nc, bs, i, ah, h1, h2, h3, h4, h5⟩ := ha
  exact ⟨b0, b1, b2, b3, b4, an, n, nc, bs, i, ah, h1, hx _ _ h2, hx _ _ h3, hx _ _ h4, hx _ _ h5⟩

theorem adjacent_ok {an ao : Option Addr} {n nc bs bw cn cc : Nat} {i : Int} {ah : Bool} :
    CallsX Ybaz.prog w0 44 #[.agg (gcells an n nc bs), .int .i64 i, .slice ao cn cc, .bool ah, .pointer (some ⟨bw, 0, none⟩)] h N (fun u h' _ => ∃ Y, Sep Y h h' ∧ ∃ lb, u = .func (.func 73) #[] lb ∧ AdjC Y lb (.slice ao cn cc)) := by
  refine calls_of Ybaz.func44 rfl Ybaz.ntmps44 (Nat.le_of_ble_eq_true rfl) ?_
  refine c_seq ?_
  refine c_region (by kernel_rfl) ?_
  refine st (ok_box (v := .agg _) rfl rfl (fun hN5 => ?_))
  refine st (ok_box (v := .int _ _) rfl rfl (fun hN6 => ?_))
  refine st (ok_box (v := .slice _ _ _) rfl rfl (fun hN7 => ?_))
  refine st (ok_box (v := .bool _) rfl rfl (fun hN8 => ?_))
  refine st (ok_box (v := .pointer _) rfl rfl (fun hN9 => ?_))
  refine st_q (ok_assign (v := .nilFunc) rfl ⟨rfl, rfl, rfl⟩) ?_
  refine o_nil ?_
  refine n_then ?_
  refine c_seq ?_
  refine c_region (by kernel_rfl) ?_
  refine st_q (ok_makeFunc rfl rfl ⟨rfl, rfl, rfl⟩) ?_
  refine st_q (ok_assign (v := .func _ _ _) rfl ⟨rfl, rfl, rfl⟩) ?_
  refine o_nil ?_
  refine n_then ?_
  refine c_ret ?_
  refine r_leave (leave_tmp rfl rfl ⟨_, (((((Sep.start h).push hN5 _).push hN6 _).push hN7 _).push hN8 _).push hN9 _, _, rfl, ?_⟩)
  refine ⟨_, _, _, _, _, an, n, nc, bs, i, ah, rfl, ?_, ?_, ?_, ?_⟩
  · (repeat rw [hset_ne _ _ (by omega)]); exact hset_same _ _ _
  · (repeat rw [hset_ne _ _ (by omega)]); exact hset_same _ _ _
  · (repeat rw [hset_ne _ _ (by omega)]); exact hset_same _ _ _
  · (repeat rw [hset_ne _ _ (by omega)]); exact hset_same _ _ _

theorem adjIter_ok {l : Nat} {lb : Array Value} {v : Value} {xs : List Nat} {Y : Hp} {J : Nat → Hp → Nat → Prop} {Jx : Hp → Nat → Prop} (hA : AdjC Y lb v) (ho : Own Y 3 1 v (ints xs)) (hl : xs.length ≤ 1000)
    (hJ : ∀ j h N, J j h N → Ext Y h) (jx : ∀ j h N h' N', J j h N → Ext h h' → J j h' N')
    (hY : ∀ j (x : Nat) h N, xs[j]? = some x → J j h N → YieldsTo Ybaz.prog w0 l [.int .i64 (x : Int)] h N (fun b h' N' => (b = true ∧ J (j + 1) h' N') ∨ (b = false ∧ Jx h' N'))) (h0 : J 0 h N) :
    CallsX Ybaz.prog w0 73 (Value.func (.yield l) #[] #[] :: lb.toList).toArray h N (fun _ h' N' => J xs.length h' N' ∨ Jx h' N') := by
  obtain ⟨b0, b1, b2, b3, b4, an, n, nc, bs, i, ah, rfl, g0, g1, g3, g2⟩ := hA
  obtain ⟨ao, cap, rfl, hcap, hrow⟩ := ho.row
  refine calls_of Ybaz.func73 rfl Ybaz.ntmps73 (Nat.le_of_ble_eq_true rfl) ?_
  have hx := hJ _ _ _ h0
  refine c_seq ?_
  refine c_region (by kernel_rfl) ?_
  refine st_q (ok_loadAgg (ty rfl) rfl (hx _ _ g0) (Nat.le_of_ble_eq_true rfl) rfl ⟨rfl, rfl, rfl⟩) ?_
  refine st_q (ok_load (ty rfl) rfl (hx _ _ g1) rfl ⟨rfl, rfl, rfl⟩) ?_
  refine st_q (ok_load (ty rfl) rfl (hx _ _ g3) rfl ⟨rfl, rfl, rfl⟩) ?_
  refine st (ok_call rfl ent42 (fansAt_ok) rfl ?_)
  rintro _ h1 N1 ⟨rfl, hx1⟩
  refine st_q (ok_assign (v := .slice _ _ _) rfl ⟨rfl, rfl, rfl⟩) ?_
  refine o_nil ?_
  refine n_then ?_
  have h0 := jx _ _ _ _ N1 h0 hx1
  clear hx hx1
  have hx := hJ _ _ _ h0
  refine c_seq ?_
  refine c_seq ?_
  refine c_region (by kernel_rfl) ?_
  refine st_q (ok_move (v := .slice _ _ _) rfl ⟨rfl, rfl, rfl⟩) ?_
  refine st_q (ok_len (sl rfl) rfl ⟨rfl, rfl, rfl⟩) ?_
  refine st_q (ok_eql rfl rfl ⟨rfl, rfl, rfl⟩) ?_
  refine o_nil ?_
  refine n_then ?_
  refine c_cond_true rfl ?_
  refine c_seq ?_
  refine c_seq ?_
  refine c_region (by kernel_rfl) ?_
  refine st_q (ok_load (ty rfl) rfl (hx _ _ g2) rfl ⟨rfl, rfl, rfl⟩) ?_
  refine st_q (ok_len (sl rfl) rfl ⟨rfl, rfl, rfl⟩) ?_
  refine st_q (ok_move (v := .int _ _) rfl ⟨rfl, rfl, rfl⟩) ?_
  refine o_nil ?_
  refine n_then ?_
  refine c_block ?_
  refine c_loop (fun k E h' N' D => D = [] ∧ k ≤ xs.length ∧ J (xs.length - k) h' N' ∧ Fr E [(0, .func (.yield l) #[] #[]), (30, .slice ao xs.length cap), (31, .int .i64 (xs.length : Int)), (32, .int .i64 ((xs.length - k : Nat) : Int))]) (k := xs.length) ⟨rfl, Nat.le_refl _, by rw [Nat.sub_self]; exact h0, rfl, rfl, rfl, by simp [upd], trivial⟩ ?_
  clear h0 hx
  rintro k E h' N' D ⟨rfl, hk, h0, hE⟩
  obtain ⟨E0, rfl⟩ := hE.ex
  refine c_seq ?_
  refine c_region (by kernel_rfl) ?_
  refine st_q (ok_lss rfl rfl ⟨rfl, rfl, rfl⟩) ?_
  refine o_nil ?_
  refine n_then ?_
  refine c_seq ?_
  refine c_cond_prop rfl (fun hc => ?_) (fun hc => ?_)
  · skip
    generalize hj : xs.length - k = j at *
    have hjl : j < xs.length := by omega
    obtain ⟨b, cs, rfl, hb, hcj⟩ := hrow j xs[j] (List.getElem?_eq_getElem hjl)
    have hx := hJ _ _ _ h0
    refine c_skip ?_
    refine n_then ?_
    refine c_seq ?_
    refine c_block ?_
    refine c_seq ?_
    refine c_region (by kernel_rfl) ?_
    refine st_q (ok_indexAddr (sl rfl) (ty rfl) rfl rfl (by omega) (by omega) (off := j) (by omega) ⟨rfl, rfl, rfl⟩) ?_
    refine st_q (ok_load (ty rfl) rfl (hx _ _ hb) hcj ⟨rfl, rfl, rfl⟩) ?_
    refine st_q (ok_assign (v := .int _ _) rfl ⟨rfl, rfl, rfl⟩) ?_
    refine o_nil ?_
    refine n_then ?_
    refine c_seq ?_
    refine c_region (by kernel_rfl) ?_
    refine st_q (ok_move (v := .func _ _ _) rfl ⟨rfl, rfl, rfl⟩) ?_
    refine st_q (ok_move (v := .int _ _) rfl ⟨rfl, rfl, rfl⟩) ?_
    refine st (ok_yield rfl (hY j _ _ _ (List.getElem?_eq_getElem hjl) h0) rfl ?_)
    rintro b' h2 N2 (⟨rfl, hJ2⟩ | ⟨rfl, hJ2⟩)
    · refine st_q (ok_not rfl ⟨rfl, rfl, rfl⟩) (o_nil ?_)
      refine n_then ?_
      refine c_cond_false rfl ?_
      refine c_skip ?_
      refine n_block (n_then ?_)
      refine c_region (by kernel_rfl) ?_
      refine st_q (ok_add rfl rfl (by omega) (by omega) ⟨rfl, rfl, rfl⟩) ?_
      refine st_q (ok_move (v := .int _ _) rfl ⟨rfl, rfl, rfl⟩) ?_
      refine o_nil ?_
      refine n_then ⟨k - 1, by omega, rfl, by omega, by rw [show xs.length - (k - 1) = j + 1 from by omega]; exact hJ2, rfl, rfl, rfl, ?_, trivial⟩
      show Value.int .i64 ((j : Int) + 1) = _
      congr 1; omega
    · refine st_q (ok_not rfl ⟨rfl, rfl, rfl⟩) (o_nil ?_)
      refine n_then ?_
      refine c_cond_true rfl ?_
      refine c_ret ?_
      refine r_block (r_then (r_then (r_block (r_then (r_then ?_)))))
      exact r_leave (leave_none rfl (.inr hJ2))
  · skip
    refine c_exit ?_
    refine x_then (x_then (x_block (n_then ?_)))
    refine c_ret ?_
    refine r_then ?_
    have hk0 : k = 0 := by omega
    subst hk0
    exact r_leave (leave_none rfl (.inl h0))

theorem cyc1_ok {an : Option Addr} {n nc bs bg bw i : Nat} {V : Nat → Value} {S : Nat → List Nat} (hg : h bg = some (.cells (gcells an n nc bs) 69 (0, 0))) (hR : Rows h bs n V S) (hi : i < n) :
    CallsX Ybaz.prog w0 45 #[.int .i64 (i : Int), .pointer (some ⟨bg, 0, none⟩), .pointer (some ⟨bw, 0, none⟩)] h N (fun u h' _ => ∃ Y, Sep Y h h' ∧ ∃ lb, u = .func (.func 73) #[] lb ∧ AdjC Y lb (V i)) := by
  obtain ⟨vs, gt, gn, gv⟩ := hR.top
  have ho := hR.own i hi
  have hVi := gv i hi
  obtain ⟨ao, cap, hV, hcap, hrow⟩ := ho.row
  rw [hV] at hVi ⊢
  refine calls_of Ybaz.func45 rfl Ybaz.ntmps45 (Nat.le_of_ble_eq_true rfl) ?_
  refine c_seq ?_
  refine c_region (by kernel_rfl) ?_
  refine st_q (ok_assign (v := .nilFunc) rfl ⟨rfl, rfl, rfl⟩) ?_
  refine o_nil ?_
  refine n_then ?_
  refine c_seq ?_
  refine c_cut (fun E h' N' D => D = [] ∧ ∃ Y, Sep Y h h' ∧ ∃ lb, E 4 = .func (.func 73) #[] lb ∧ AdjC Y lb (.slice ao (S i).length cap)) ?_ ?_
  · skip
    refine c_draw mixed [0, 0, 0, 0, 0, 0, 0, 2] 9 rfl [((0, 1), [((1, 2), [((2, 2), [((3, 1), [((4, 2), [((5, 2), [((6, 1), [((7, 0), [((8, 2), ())])])])])])])])])] (by kernel_rfl) (by kernel_rfl) ?_
    refine w_r rfl (fun _ _ hExt => ok_loadAgg (ty rfl) rfl (hExt _ _ hg) (Nat.le_of_ble_eq_true rfl) rfl ⟨rfl, rfl, rfl⟩) ?_
    refine w_p rfl (fun _ _ => ok_move (v := .int _ _) rfl ⟨rfl, rfl, rfl⟩) ?_
    refine w_p rfl (fun _ _ => ok_fieldAddr (fld rfl) rfl ⟨rfl, rfl, rfl⟩) ?_
    refine w_r rfl (fun _ _ hExt => ok_load (ty rfl) rfl (hExt _ _ hg) rfl ⟨rfl, rfl, rfl⟩) ?_
    refine w_p rfl (fun _ _ => ok_move (v := .int _ _) rfl ⟨rfl, rfl, rfl⟩) ?_
    refine w_p rfl (fun _ _ => ok_indexAddr (sl rfl) (ty rfl) rfl rfl (by omega) (by omega) (off := i) (by omega) ⟨rfl, rfl, rfl⟩) ?_
    refine w_r rfl (fun _ _ hExt => ok_load (ty rfl) rfl (hExt _ _ gt) hVi ⟨rfl, rfl, rfl⟩) ?_
    refine w_e rfl (ok_call rfl ent44 (adjacent_ok) rfl ?_)
    rintro _ h1 N1 ⟨Y, hx1, lb, rfl, hA⟩
    refine ⟨trivial, ?_⟩
    refine w_p rfl (fun _ _ => ok_assign (v := .func _ _ _) rfl ⟨rfl, rfl, rfl⟩) ?_
    refine w_nil ?_
    exact n_then ⟨rfl, Y, hx1, lb, rfl, hA⟩
  rintro E h' N' D ⟨rfl, Y, hx, lb, hE, hA⟩
  refine n_then ?_
  refine c_ret ?_
  exact r_leave (leave_tmp rfl hE ⟨Y, hx, lb, rfl, hA⟩)
/-! ### A range over the nodes that adjacent yields -/
theorem Sep.join {Y h' : Hp} (hS : Sep m X h) (hY : Sep Y h h') : Sep m (uni Y X) h' ∧ Ext X (uni Y X) ∧ Ext Y (uni Y X) := by
  have hd : ∀ c, Y c = none ∨ X c = none := fun c => by
    rcases hY.dis c with e | e
    · exact .inl e
    · exact .inr (hS.oth.back e)
  refine ⟨⟨hS.own.trans hY.oth, fun c o e => ?_, fun c => ?_⟩, uni_r hd, uni_l _ _⟩
  · simp only [uni] at e
    split at e
    · rename_i o' h1; cases e; exact hY.own _ _ h1
    · exact hY.oth _ _ (hS.oth _ _ e)
  · rcases hS.dis c with e | e
    · exact .inl e
    · rcases hY.dis c with e2 | e2
      · exact .inr (uni_none e2 e)
      · exact .inl (hS.own.back e2)
def del (m : Hp) (b : Nat) : Hp := fun c => if c = b then none else m c
theorem del_ne (m : Hp) {b c : Nat} (hne : c ≠ b) : del m b c = m c := by simp [del, hne]
theorem del_ext (m : Hp) (b : Nat) : Ext (del m b) m := by
  intro c o hc
  by_cases e : c = b
  · simp [del, e] at hc
  · rwa [del_ne _ e] at hc
/-- A block of ours becomes others'. -/
theorem Sep.give {b : Nat} {o : Obj} (hS : Sep m X h) (hb : m b = some o) : Sep (del m b) (hset X b o) h := by
  refine ⟨(del_ext m b).trans hS.own, fun c o' hc => ?_, fun c => ?_⟩
  · by_cases e : c = b
    · subst e; rw [hset_same] at hc; cases hc; exact hS.own _ _ hb
    · rw [hset_ne _ _ e] at hc; exact hS.oth _ _ hc
  · by_cases e : c = b
    · exact .inl (by simp [del, e])
    · rw [hset_ne _ _ e, del_ne _ e]; exact hS.dis c
theorem Sep.noX {b : Nat} {o : Obj} (hS : Sep m X h) (hb : m b = some o) : X b = none := (hS.dis b).resolve_left (by rw [hb]; exact fun e => by cases e)
theorem Marks.del {D : List Deferred} {b : Nat} {cs : Array Value} {t : TypeId} {fz : Nat × Nat} (hM : Marks m D) (hb : m b = some (.cells cs t fz)) : Marks (del m b) D := by
  obtain ⟨L, h1, h2, h3⟩ := hM
  refine ⟨L, h1, h2, fun c hc => ?_⟩
  rw [del_ne _ (fun e => by subst e; rw [h3 c hc] at hb; cases hb)]
  exact h3 c hc

/-- What a round of the range must come to. -/
def adjQ (X : Hp) (nd : Nat) (I Ix : Nat → Hp → Prop) (j : Nat) : Exit → Env → Hp → Nat → List Deferred → Prop
  | .normal, _, h, _, _ => ∃ m, Sep m X h ∧ m nd = some (.deferred (some [])) ∧ I (j + 1) m
  | .exit id, _, h, _, _ => ∃ m, Sep m X h ∧ m nd = some (.deferred (some [])) ∧ Ix id m
  | _, _, _, _, _ => False

theorem c_adj {nt : Nat} {E : Env} {D : List Deferred} {Q : Exit → Env → Hp → Nat → List Deferred → Prop} {go : Operand} {p : Tmp} {asg body : Code} {lb : Array Value} {v : Value} {xs : List Nat} (hg : ev E go = .func (.func 73) #[] lb) (hp : Nat.blt p nt = true) (hA : AdjC X lb v) (ho : Own X 3 1 v (ints xs)) (hl : xs.length ≤ 1000) (hS : Sep m X h)
    (I Ix : Nat → Hp → Prop) (q : Nat) (h0 : m N = none → I 0 (hset m N (.deferred (some []))))
    (hasg : ∀ (x : Nat) (h' : Hp) (N' : Nat) (r : Option Nat) (Q' : Exit → Env → Hp → Nat → List Deferred → Prop), Q' .normal (upd (upd E p (.int .i64 (x : Int))) q (.int .i64 (x : Int))) h' N' [] → codeOk Ybaz.prog w0 r nt asg Q' (upd E p (.int .i64 (x : Int))) h' N' [])
    (hbody : ∀ (j x : Nat) (m' h' : Hp) (N' : Nat) (o : Obj) (r : Option Nat), xs[j]? = some x → I j m' → m' N = some (.deferred (some [])) → Sep m' (hset X (N + 1) o) h' → Ext X (hset X (N + 1) o) → codeOk Ybaz.prog w0 r nt body (adjQ (hset X (N + 1) o) N I Ix j) (upd (upd E p (.int .i64 (x : Int))) q (.int .i64 (x : Int))) h' N' [])
    (hdone : ∀ m' h' N', I xs.length m' → Sep m' X h' → m' N = some (.deferred (some [])) → Q .normal E h' N' (mark N :: D))
    (hstop : ∀ id m' h' N', Ix id m' → Sep m' X h' → m' N = some (.deferred (some [])) → codeOk Ybaz.prog w0 none nt (.exit id) Q E h' N' (mark N :: D)) :
    codeOk Ybaz.prog w0 none nt (.rangeFunc go #[p] asg body) Q E h N D := by
  by_cases hfree : ∀ b, N ≤ b → h b = none
  case neg =>
    refine c_range (σ := Nat) (gf := 73) (ps := [p]) (lb := lb) hg ent73 (by simp only [List.all_cons, List.all_nil, Bool.and_true]; exact hp) (fun _ _ _ => False) (fun _ _ _ => False) (fun _ _ _ => False) (fun _ => False) 0 (fun _ hf => hfree hf) (fun _ _ _ _ x => x) (fun _ _ _ _ x => x) (fun _ _ _ x => x.elim) (fun _ _ _ _ _ _ x => x.elim) (fun _ _ _ x => x.1.elim) (fun _ _ _ x => x.elim) (fun _ _ _ x => x.elim)
  have fd := hfree N (Nat.le_refl _)
  have fl := hfree (N + 1) (by omega)
  have xl : X (N + 1) = none := hS.oth.back fl
  have hXo : ∀ o, Ext X (hset X (N + 1) o) := fun o => (Ext.refl X).fresh xl _
  refine c_range (σ := Nat) (gf := 73) (ps := [p]) (lb := lb) hg ent73 (by simp only [List.all_cons, List.all_nil, Bool.and_true]; exact hp)
    (fun j h' _ => ∃ m, Sep m X h' ∧ m N = some (.deferred (some [])) ∧ m (N + 1) = none ∧ I j m)
    (fun c h' _ => ∃ id m, c = .exit id ∧ Sep m X h' ∧ m N = some (.deferred (some [])) ∧ m (N + 1) = none ∧ Ix id m)
    (fun j args j' => ∃ x : Nat, xs[j]? = some x ∧ args = [.int .i64 (x : Int)] ∧ j' = j + 1) (fun j => j = xs.length) 0 ?_ ?_ ?_ ?_ ?_ ?_ ?_ ?_
  · intro o _
    exact ⟨_, (hS.new fd _).fresh ((hset_ne _ _ (by omega)).trans fl) _, hset_same _ _ _, (hset_ne _ _ (by omega)).trans (hS.own.back fl), h0 (hS.own.back fd)⟩
  · rintro s h' N' o ⟨m, hS, a1, a2, a3⟩
    exact ⟨m, hS.setO a2 xl o, a1, a2, a3⟩
  · rintro s h' N' o ⟨id, m, e, hS, a1, a2, a3⟩
    exact ⟨id, m, e, hS.setO a2 xl o, a1, a2, a3⟩
  · rintro s args s' ⟨x, _, rfl, _⟩; rfl
  · rintro Rc j args j' h' N' ⟨x, hx, rfl, rfl⟩ hRd ⟨m, hS, a1, a2, a3⟩ hlr hd
    refine hasg x h' N' _ _ (n_then ⟨hlr, ?_⟩)
    have hS2 : Sep m (hset X (N + 1) (Rc.obj .busy none)) (hset h' (N + 1) (Rc.obj .busy none)) := (hS.setO a2 xl _).takeX (hset_same _ _ _) a2
    refine code_mono ?_ (hbody j x m _ N' (Rc.obj .busy none) _ hx a3 a1 hS2 (hXo _))
    intro e E2 h2 N2 D2 hq
    cases e with
    | normal =>
      obtain ⟨m2, hS3, c1, c2⟩ := hq
      refine ⟨⟨hS3.oth _ _ (hset_same _ _ _), by rw [hRd]; exact hS3.own _ _ c1⟩, m2, hS3.dropX (hXo _), c1, ?_, c2⟩
      exact hS3.notm (hset_same _ _ _)
    | exit id =>
      obtain ⟨m2, hS3, c1, c2⟩ := hq
      refine ⟨⟨hS3.oth _ _ (hset_same _ _ _), by rw [hRd]; exact hS3.own _ _ c1⟩, id, m2, rfl, hS3.dropX (hXo _), c1, ?_, c2⟩
      exact hS3.notm (hset_same _ _ _)
    | ret => exact hq.elim
    | goto id => exact hq.elim
    | panic ch => exact hq.elim
    | outgrown => exact hq.elim
  · intro Rc hRd hYl hlive
    refine (adjIter_ok (l := N + 1) (Y := X) (J := fun j h' N' => Live (fun (j : Nat) h' (_ : Nat) => ∃ m, Sep m X h' ∧ m N = some (.deferred (some [])) ∧ m (N + 1) = none ∧ I j m) (N + 1) Rc j h' N')
      (Jx := fun h' N' => Stopped (fun c h' _ => ∃ id m, c = .exit id ∧ Sep m X h' ∧ m N = some (.deferred (some [])) ∧ m (N + 1) = none ∧ Ix id m) (N + 1) Rc h' N') hA ho hl ?_ ?_ ?_ hlive).mono ?_
    · rintro j h' N' ⟨⟨m, hS, _⟩, _⟩; exact hS.oth
    · rintro j h' N' h2 N2 ⟨⟨m, hS, a1⟩, b1, b2⟩ hx
      exact ⟨⟨m, hS.ext hx, a1⟩, hx _ _ b1, hx _ _ b2⟩
    · intro j x h' N' hx hv
      exact hYl j _ (j + 1) h' N' ⟨x, hx, rfl, rfl⟩ hv
    · rintro _ h' N' (hv | hv)
      · exact .inl ⟨_, rfl, hv⟩
      · exact .inr hv
  · rintro j h' N' rfl ⟨m, hS, a1, a2, a3⟩ _
    exact hdone m h' N' a3 hS a1
  · rintro c h' N' ⟨id, m, rfl, hS, a1, a2, a3⟩ _
    exact hstop id m h' N' a3 hS a1
end
end Sx
end Go.Proofs.YbulkcsqkGreat
