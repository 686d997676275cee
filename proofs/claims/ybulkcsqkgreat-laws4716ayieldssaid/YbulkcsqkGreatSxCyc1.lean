import Derived.Test.YbulkcsqkGreatSxPred
namespace Go.Proofs.YbulkcsqkGreat
namespace Sx
set_option maxRecDepth 10000
set_option maxHeartbeats 1000000
variable {w0 : World}

/-! ### Several marks -/
def mark (b : Nat) : Deferred := { target := .collected b, args := #[] }
def Marks (m : Hp) (D : List Deferred) : Prop := ∃ L : List Nat, D = L.map mark ∧ L.Nodup ∧ ∀ b ∈ L, m b = some (.deferred (some []))
theorem Marks.nil (m : Hp) : Marks m [] := ⟨[], rfl, .nil, by simp⟩
theorem Marks.ext {m m' : Hp} {D : List Deferred} (hM : Marks m D) (hx : Ext m m') : Marks m' D := by
  obtain ⟨L, h1, h2, h3⟩ := hM
  exact ⟨L, h1, h2, fun b hb => hx _ _ (h3 b hb)⟩
theorem Marks.cons {m : Hp} {D : List Deferred} {b : Nat} (hM : Marks m D) (hb : m b = none) : Marks (hset m b (.deferred (some []))) (mark b :: D) := by
  obtain ⟨L, h1, h2, h3⟩ := hM
  refine ⟨b :: L, by rw [h1]; rfl, List.nodup_cons.2 ⟨fun hc => ?_, h2⟩, ?_⟩
  · rw [h3 b hc] at hb; cases hb
  · intro c hc
    rcases List.mem_cons.1 hc with rfl | hc2
    · exact hset_same _ _ _
    · rw [hset_ne _ _ (fun e => by rw [← e, h3 c hc2] at hb; cases hb)]; exact h3 c hc2
theorem Marks.set {m : Hp} {D : List Deferred} {b : Nat} {cs : Array Value} {t : TypeId} {fz : Nat × Nat} {o : Obj} (hM : Marks m D) (hb : m b = some (.cells cs t fz)) : Marks (hset m b o) D := by
  obtain ⟨L, h1, h2, h3⟩ := hM
  refine ⟨L, h1, h2, fun c hc => ?_⟩
  rw [hset_ne _ _ (fun e => by subst e; rw [h3 c hc] at hb; cases hb)]
  exact h3 c hc
theorem leave_marks {P : Program} {R : Value → Hp → Nat → Prop} {fn : Func} {E : Env} {N t : Nat} {v : Value} (hr : fn.results = #[.tmp t]) (hv : E t = v) : ∀ (D : List Deferred) (m h : Hp), Marks m D → Ext m h → (∀ h', (∀ c, (∀ o, m c = some o → o ≠ .deferred (some [])) → h' c = h c) → R v h' N) → leave P w0 fn R E N D h := by
  intro D
  induction D with
  | nil => intro m h _ _ k; exact leave_tmp hr hv (k h (fun _ _ => rfl))
  | cons d D ih =>
    rintro m h ⟨L, h1, h2, h3⟩ hx k
    cases L with
    | nil => cases h1
    | cons b L =>
      simp only [List.map_cons, List.cons.injEq] at h1
      obtain ⟨rfl, rfl⟩ := h1
      have hb := h3 b (by simp)
      refine ⟨b, rfl, hx _ _ hb, ih (fun c => if c = b then none else m c) _ ⟨L, rfl, (List.nodup_cons.1 h2).2, fun c hc => ?_⟩ ?_ ?_⟩
      · have : c ≠ b := fun e => (List.nodup_cons.1 h2).1 (e ▸ hc)
        simp only [this, if_false]; exact h3 c (by simp [hc])
      · intro c o hc
        by_cases e : c = b
        · simp [e] at hc
        · simp only [e, if_false] at hc
          rw [hset_ne _ _ e]; exact hx _ _ hc
      · intro h' hh
        refine k h' (fun c hc => ?_)
        have hne : c ≠ b := fun e => hc _ (e ▸ hb) rfl
        rw [hh c (fun o ho => by simp only [hne, if_false] at ho; exact hc o ho), hset_ne _ _ hne]

/-! ### The walk's small functions -/
section
variable {h m X : Hp} {N : Nat}
def wcells (k : Nat) : Array Value := #[.int .i64 (k : Int), .slice none 0 0, .slice none 0 0, .slice none 0 0, .slice none 0 0]
theorem begin_ok {b k : Nat} (hb : h b = some (.cells (wcells k) 126 (0, 0))) (hk : k ≤ 1000000) :
    CallsX Ybaz.prog w0 43 #[.pointer (some ⟨b, 0, none⟩), .int .i64 0] h N (fun v h' N' => v = .tuple #[] ∧ h' = hset h b (.cells (wcells (k + 1)) 126 (0, 0)) ∧ N' = N) := by
  refine calls_of Ybaz.func43 rfl Ybaz.ntmps43 (Nat.le_of_ble_eq_true rfl) ?_
  refine c_seq ?_
  refine c_seq ?_
  refine c_region (by kernel_rfl) ?_
  refine st_q (ok_move (v := .pointer _) rfl ⟨rfl, rfl, rfl⟩) ?_
  refine st_q (ok_nilCheck_ptr rfl ⟨rfl, rfl, rfl⟩) ?_
  refine st_q (ok_fieldAddr (fld rfl) rfl ⟨rfl, rfl, rfl⟩) ?_
  refine st_q (ok_load (ty rfl) rfl hb rfl ⟨rfl, rfl, rfl⟩) ?_
  refine st_q (ok_len (sl rfl) rfl ⟨rfl, rfl, rfl⟩) ?_
  refine st_q (ok_move (v := .int _ _) rfl ⟨rfl, rfl, rfl⟩) ?_
  refine st_q (ok_lss rfl rfl ⟨rfl, rfl, rfl⟩) ?_
  refine o_nil ?_
  refine n_then ?_
  refine c_cond_false rfl ?_
  refine c_skip ?_
  refine n_then ?_
  refine c_region (by kernel_rfl) ?_
  refine st_q (ok_move (v := .pointer _) rfl ⟨rfl, rfl, rfl⟩) ?_
  refine st_q (ok_nilCheck_ptr rfl ⟨rfl, rfl, rfl⟩) ?_
  refine st_q (ok_fieldAddr (fld rfl) rfl ⟨rfl, rfl, rfl⟩) ?_
  refine st_q (ok_load (ty rfl) rfl hb rfl ⟨rfl, rfl, rfl⟩) ?_
  refine st_q (ok_add rfl rfl (by omega) (by omega) ⟨rfl, rfl, rfl⟩) ?_
  refine st_q (ok_nilCheck_ptr rfl ⟨rfl, rfl, rfl⟩) ?_
  refine st_q (ok_fieldAddr (fld rfl) rfl ⟨rfl, rfl, rfl⟩) ?_
  refine st0 (ok_store (ty rfl) rfl (v := .int _ _) rfl rfl hb (Nat.le_of_ble_eq_true rfl) ?_)
  refine o_nil ?_
  exact n_leave (leave_none rfl ⟨rfl, rfl, rfl⟩)

theorem stuck_ok {bx bt bi n c i : Nat} {cs ds : Array Value} {dg : Nat → Nat} {t1 t2 t3 : TypeId} {f1 f2 f3 : Nat × Nat} (hx : h bx = some (.cells #[.pointer (some ⟨bt, 0, none⟩)] t1 f1)) (ht : h bt = some (.cells cs t2 f2)) (hc : cs[5]? = some (.slice (some ⟨bi, 0, none⟩) n c)) (hd : h bi = some (.cells ds t3 f3)) (hv : ∀ j, j < n → ds[j]? = some (.int .i64 (dg j : Int))) (hi : i < n) :
    CallsX Ybaz.prog w0 24 #[.int .i64 (i : Int), .pointer (some ⟨bx, 0, none⟩)] h N (fun v h' N' => v = .bool (decide (0 < dg i)) ∧ h' = h ∧ N' = N) := by
  refine calls_of Ybaz.func24 rfl Ybaz.ntmps24 (Nat.le_of_ble_eq_true rfl) ?_
  refine c_seq ?_
  refine c_region (by kernel_rfl) ?_
  refine st_q (ok_assign (v := .bool _) rfl ⟨rfl, rfl, rfl⟩) ?_
  refine o_nil ?_
  refine n_then ?_
  refine c_seq ?_
  refine c_region (by kernel_rfl) ?_
  refine st_q (ok_load (ty rfl) rfl hx rfl ⟨rfl, rfl, rfl⟩) ?_
  refine st_q (ok_nilCheck_ptr rfl ⟨rfl, rfl, rfl⟩) ?_
  refine st_q (ok_fieldAddr (fld rfl) rfl ⟨rfl, rfl, rfl⟩) ?_
  refine st_q (ok_load (ty rfl) rfl ht hc ⟨rfl, rfl, rfl⟩) ?_
  refine st_q (ok_move (v := .int _ _) rfl ⟨rfl, rfl, rfl⟩) ?_
  refine st_q (ok_indexAddr (sl rfl) (ty rfl) rfl rfl (by omega) (by omega) (off := i) (by omega) ⟨rfl, rfl, rfl⟩) ?_
  refine st_q (ok_load (ty rfl) rfl hd (hv i hi) ⟨rfl, rfl, rfl⟩) ?_
  refine st_q (ok_gtr rfl rfl ⟨rfl, rfl, rfl⟩) ?_
  refine st_q (ok_assign (v := .bool _) rfl ⟨rfl, rfl, rfl⟩) ?_
  refine o_nil ?_
  refine n_then ?_
  refine c_ret ?_
  exact r_leave (leave_tmp rfl rfl ⟨by simp [upd], rfl, rfl⟩)

theorem lead_ok {bx bl n c i : Nat} {ls : Array Value} {ld : Nat → Bool} {t1 t2 : TypeId} {f1 f2 : Nat × Nat} (hx : h bx = some (.cells #[.slice (some ⟨bl, 0, none⟩) n c] t1 f1)) (hd : h bl = some (.cells ls t2 f2)) (hv : ∀ j, j < n → ls[j]? = some (.bool (ld j))) (hi : i < n) :
    CallsX Ybaz.prog w0 77 #[.int .i64 (i : Int), .pointer (some ⟨bx, 0, none⟩)] h N (fun v h' N' => v = .bool (ld i) ∧ h' = h ∧ N' = N) := by
  refine calls_of Ybaz.func77 rfl Ybaz.ntmps77 (Nat.le_of_ble_eq_true rfl) ?_
  refine c_seq ?_
  refine c_region (by kernel_rfl) ?_
  refine st_q (ok_assign (v := .bool _) rfl ⟨rfl, rfl, rfl⟩) ?_
  refine o_nil ?_
  refine n_then ?_
  refine c_seq ?_
  refine c_region (by kernel_rfl) ?_
  refine st_q (ok_load (ty rfl) rfl hx rfl ⟨rfl, rfl, rfl⟩) ?_
  refine st_q (ok_move (v := .int _ _) rfl ⟨rfl, rfl, rfl⟩) ?_
  refine st_q (ok_indexAddr (sl rfl) (ty rfl) rfl rfl (by omega) (by omega) (off := i) (by omega) ⟨rfl, rfl, rfl⟩) ?_
  refine st_q (ok_load (ty rfl) rfl hd (hv i hi) ⟨rfl, rfl, rfl⟩) ?_
  refine st_q (ok_assign (v := .bool _) rfl ⟨rfl, rfl, rfl⟩) ?_
  refine o_nil ?_
  refine n_then ?_
  refine c_ret ?_
  exact r_leave (leave_tmp rfl rfl ⟨rfl, rfl, rfl⟩)

theorem indexFunc_ok {bx bl n c : Nat} {ls : Array Value} {ld : Nat → Bool} {t1 t2 : TypeId} {f1 f2 : Nat × Nat} {v : Value} {xs : List Nat} (hx : h bx = some (.cells #[.slice (some ⟨bl, 0, none⟩) n c] t1 f1)) (hd : h bl = some (.cells ls t2 f2)) (hv : ∀ j, j < n → ls[j]? = some (.bool (ld j)))
    (ho : Own h 3 1 v (ints xs)) (hxs : ∀ x ∈ xs, x < n) (hl : xs.length ≤ 1000) :
    CallsX Ybaz.prog w0 76 #[v, .func (.func 77) #[] #[.pointer (some ⟨bx, 0, none⟩)]] h N (fun u h' N' => (((∃ k x : Nat, u = .int .i64 (k : Int) ∧ xs[k]? = some x ∧ ld x = true)) ∨ (u = .int .i64 (-1) ∧ ∀ x ∈ xs, ld x = false)) ∧ h' = h ∧ N' = N) := by
  obtain ⟨ao, cap, rfl, hcap, hrow⟩ := ho.row
  refine calls_of Ybaz.func76 rfl Ybaz.ntmps76 (Nat.le_of_ble_eq_true rfl) ?_
  refine c_seq ?_
  refine c_region (by kernel_rfl) ?_
  refine st_q (ok_assign (v := .int _ _) rfl ⟨rfl, rfl, rfl⟩) ?_
  refine o_nil ?_
  refine n_then ?_
  refine c_seq ?_
  refine c_seq ?_
  refine c_region (by kernel_rfl) ?_
  refine st_q (ok_move (v := .slice _ _ _) rfl ⟨rfl, rfl, rfl⟩) ?_
  refine st_q (ok_len (sl rfl) rfl ⟨rfl, rfl, rfl⟩) ?_
  refine st_q (ok_move (v := .int _ _) rfl ⟨rfl, rfl, rfl⟩) ?_
  refine o_nil ?_
  refine n_then ?_
  refine c_block ?_
  refine c_loop (fun k E h' N' D => D = [] ∧ h' = h ∧ N' = N ∧ k ≤ xs.length ∧ (∀ x ∈ xs.take (xs.length - k), ld x = false) ∧ Fr E [(0, .slice ao xs.length cap), (1, .func (.func 77) #[] #[.pointer (some ⟨bx, 0, none⟩)]), (7, .int .i64 (xs.length : Int)), (8, .int .i64 ((xs.length - k : Nat) : Int))]) (k := xs.length) ⟨rfl, rfl, rfl, Nat.le_refl _, by simp, rfl, rfl, rfl, by simp [upd], trivial⟩ ?_
  rintro k E h' N' D ⟨rfl, rfl, rfl, hk, hno, hE⟩
  obtain ⟨E0, rfl⟩ := hE.ex
  refine c_seq ?_
  refine c_region (by kernel_rfl) ?_
  refine st_q (ok_lss rfl rfl ⟨rfl, rfl, rfl⟩) ?_
  refine o_nil ?_
  refine n_then ?_
  refine c_seq ?_
  refine c_cond_prop rfl (fun hc => ?_) (fun hc => ?_)
  · skip
    generalize hj : xs.length - k = j at *
    have hjl : j < xs.length := by omega
    obtain ⟨b, cs, rfl, hb, hcj⟩ := hrow j xs[j] (List.getElem?_eq_getElem hjl)
    refine c_skip ?_
    refine n_then ?_
    refine c_seq ?_
    refine c_block ?_
    refine c_seq ?_
    refine c_region (by kernel_rfl) ?_
    refine st_q (ok_move (v := .int _ _) rfl ⟨rfl, rfl, rfl⟩) ?_
    refine st_q (ok_assign (v := .int _ _) rfl ⟨rfl, rfl, rfl⟩) ?_
    refine o_nil ?_
    refine n_then ?_
    refine c_seq ?_
    refine c_region (by kernel_rfl) ?_
    refine st_q (ok_move (v := .func _ _ _) rfl ⟨rfl, rfl, rfl⟩) ?_
    refine st_q (ok_move (v := .slice _ _ _) rfl ⟨rfl, rfl, rfl⟩) ?_
    refine st_q (ok_move (v := .int _ _) rfl ⟨rfl, rfl, rfl⟩) ?_
    refine st_q (ok_indexAddr (sl rfl) (ty rfl) rfl rfl (by omega) (by omega) (off := j) (by omega) ⟨rfl, rfl, rfl⟩) ?_
    refine st_q (ok_load (ty rfl) rfl hb hcj ⟨rfl, rfl, rfl⟩) ?_
    refine st (ok_call rfl ent77 (lead_ok (i := xs[j]) hx hd hv (hxs _ (List.getElem_mem _))) rfl ?_); rintro _ h1 N1 ⟨rfl, rfl, rfl⟩; refine o_nil ?_
    refine n_then ?_
    refine c_cond rfl (fun hc2 => ?_) (fun hc2 => ?_)
    · skip
      refine c_seq ?_
      refine c_region (by kernel_rfl) ?_
      refine st_q (ok_move (v := .int _ _) rfl ⟨rfl, rfl, rfl⟩) ?_
      refine st_q (ok_assign (v := .int _ _) rfl ⟨rfl, rfl, rfl⟩) ?_
      refine o_nil ?_
      refine n_then ?_
      refine c_ret ?_
      refine r_block (r_then (r_then (r_block (r_then ?_))))
      exact r_leave (leave_tmp rfl rfl ⟨.inl ⟨j, xs[j], rfl, List.getElem?_eq_getElem hjl, hc2⟩, rfl, rfl⟩)
    · skip
      refine c_skip ?_
      refine n_block (n_then ?_)
      refine c_region (by kernel_rfl) ?_
      refine st_q (ok_add rfl rfl (by omega) (by omega) ⟨rfl, rfl, rfl⟩) ?_
      refine st_q (ok_move (v := .int _ _) rfl ⟨rfl, rfl, rfl⟩) ?_
      refine o_nil ?_
      refine n_then ⟨k - 1, by omega, rfl, rfl, rfl, by omega, ?_, rfl, rfl, rfl, ?_, trivial⟩
      · rw [show xs.length - (k - 1) = j + 1 from by omega, List.take_succ_eq_append_getElem hjl]
        intro x hx'
        rcases List.mem_append.1 hx' with h1 | h1
        · exact hno x h1
        · simp at h1; subst h1; exact hc2
      · show Value.int .i64 ((j : Int) + 1) = _
        congr 1; omega
  · skip
    refine c_exit ?_
    refine x_then (x_then (x_block (n_then ?_)))
    refine c_seq ?_
    refine c_region (by kernel_rfl) ?_
    refine st_q (ok_assign (v := .int _ _) rfl ⟨rfl, rfl, rfl⟩) ?_
    refine o_nil ?_
    refine n_then ?_
    refine c_ret ?_
    have hk0 : k = 0 := by omega
    subst hk0
    rw [Nat.sub_zero, List.take_length] at hno
    exact r_leave (leave_tmp rfl rfl ⟨.inr ⟨rfl, hno⟩, rfl, rfl⟩)
end
end Sx
end Go.Proofs.YbulkcsqkGreat
