import Derived.Test.YbulkcsqkGreatSxDraw
import Derived.RangeFuncRecord
namespace Go.Proofs.YbulkcsqkGreat
namespace Sx

/-! ### A function's way in and out -/
def envL : List Value → Nat → Env
  | [], _ => fun _ => undef
  | v :: vs, k => upd (envL vs (k + 1)) k v
theorem envL_eq (vs : List Value) : ∀ k t, envL vs k t = if k ≤ t then vs.getD (t - k) undef else undef := by
  induction vs with
  | nil => intro k t; simp [envL]
  | cons v vs ih =>
    intro k t
    simp only [envL]
    by_cases e : t = k
    · subst e; rw [upd_same]; simp
    · rw [upd_ne _ _ e, ih]
      by_cases h1 : k ≤ t
      · rw [if_pos (by omega), if_pos h1]
        have : t - k = (t - (k + 1)) + 1 := by omega
        rw [this]; simp
      · rw [if_neg (by omega), if_neg h1]
theorem env_args (args : List Value) (m : Nat) (D : List Deferred) : env { tmps := args.toArray ++ Array.replicate m undef, defers := D } = envL args 0 := by
  funext t
  rw [envL_eq]
  simp only [env, Nat.zero_le, if_true, Nat.sub_zero, Array.getD_eq_getD_getElem?, List.getD_eq_getElem?_getD]
  rw [Array.getElem?_append]
  simp only [List.size_toArray, List.getElem?_toArray]
  by_cases hlt : t < args.length
  · rw [if_pos hlt]
  · rw [if_neg hlt, List.getElem?_eq_none (by omega)]
    simp only [Array.getElem?_replicate]
    split <;> rfl

def leave (P : Program) (w0 : World) (fn : Func) (R : Value → Hp → Nat → Prop) (E : Env) (N : Nat) : List Deferred → Hp → Prop
  | [], h => ∃ v, (∀ a w, env a = E → At w0 h N w → (results fn a.tmps).run P w = .ok v w) ∧ R v h N
  | d :: ds, h => ∃ rr, d = { target := .collected rr, args := #[] } ∧ h rr = some (.deferred (some [])) ∧ leave P w0 fn R E N ds (hset h rr (.deferred none))
def retQ (P : Program) (w0 : World) (fn : Func) (R : Value → Hp → Nat → Prop) : Exit → Env → Hp → Nat → List Deferred → Prop
  | .normal, E, h, N, D => leave P w0 fn R E N D h
  | .ret, E, h, N, D => leave P w0 fn R E N D h
  | _, _, _, _, _ => False

section
variable {P : Program} {w0 : World} {h : Hp} {N : Nat} {R : Value → Hp → Nat → Prop}
theorem leave_sound {fn : Func} {a : Act} : ∀ (D : List Deferred) (h : Hp) (w : World), At w0 h N w → leave P w0 fn R (env a) N D h → LeavesInM (FW none) 0 P fn a.tmps (back w0 R) D .returning w
  | [], h, w, hw, hl => by
    obtain ⟨v, h1, h2⟩ := hl
    exact ⟨v, h1 a w rfl hw, v, h, N, rfl, hw, h2⟩
  | d :: ds, h, w, hw, hl => by
    obtain ⟨rr, rfl, h1, h2⟩ := hl
    refine ⟨by simp, .inl ⟨rr, _, rfl, run_takeDeferred (P := P) (by rw [hw.heap]; exact h1), ?_⟩⟩
    exact leave_sound ds _ _ (hw.set (hw.lt h1) _) h2

theorem calls_of {f : FuncId} {fn : Func} {c : Code} {args : List Value} {nt : Nat} (hf : P.funcs[f]? = some fn) (hb : fn.body = some c) (hn : fn.ntmps = nt) (hle : args.length ≤ nt)
    (hh : codeOk P w0 none nt c (retQ P w0 fn R) (envL args 0) h N []) : CallsX P w0 f args.toArray h N R := by
  intro w hw
  refine (callsIn_wide (n := 0)).1 ?_
  refine callsIn_of_wp_marks hf hb trivial ?_
  refine wpIn_mono (hh _ w ?_ ?_ rfl hw) ?_
  · simp [hn]; omega
  · exact env_args args _ []
  · rintro e a' w' ⟨_, h', N', ha, hq⟩
    cases e <;> first | exact leave_sound _ _ _ ha hq | exact hq.elim

theorem r_leave {fn : Func} {E : Env} {D : List Deferred} (k : leave P w0 fn R E N D h) : retQ P w0 fn R .ret E h N D := k
theorem n_leave {fn : Func} {E : Env} {D : List Deferred} (k : leave P w0 fn R E N D h) : retQ P w0 fn R .normal E h N D := k
/-- The ways in which results are handed back. -/
theorem leave_none {fn : Func} {E : Env} (hr : fn.results = #[]) (k : R (.tuple #[]) h N) : leave P w0 fn R E N [] h :=
  ⟨_, fun _ _ _ _ => results_none hr _ _ _, k⟩
theorem leave_tmp {fn : Func} {E : Env} {t : Nat} {v : Value} (hr : fn.results = #[.tmp t]) (hv : E t = v) (k : R v h N) : leave P w0 fn R E N [] h :=
  ⟨v, fun a w he _ => by rw [results_tmp hr, ← hv, ← he]; rfl, k⟩
theorem leave_tmp2 {fn : Func} {E : Env} {t u : Nat} {v v' : Value} (hr : fn.results = #[.tmp t, .tmp u]) (hv : E t = v) (hv' : E u = v') (k : R (.tuple #[v, v']) h N) : leave P w0 fn R E N [] h :=
  ⟨_, fun a w he _ => by rw [results_tmp2 hr, ← hv, ← hv', ← he]; rfl, k⟩
theorem run_loadVarAgg {t : TypeId} {n bytes b o : Nat} {zv : Value} {cs : Array Value} {vs : List Value} {te : TypeId} {fz : Nat × Nat} {w : World} (hT : Ty P t true n bytes zv) (hw : At w0 h N w) (hb : h b = some (.cells cs te fz)) (hn : o + n ≤ cs.size) (hv : (cs.toList.drop o).take n = vs) :
    (loadVar t ⟨b, o, none⟩).run P w = .ok (.agg vs.toArray) w := by
  have hl := run_loadCells (P := P) hb n w o 0 #[] hw (by omega)
  simp only [Nat.add_zero, extract_list, hv, Array.empty_append] at hl
  simp only [loadVar, Sem.run_bind, run_isAgg hT.und, Result.andThen, if_true, run_sizeOf hT, loadCells, hl, Sem.run_pure]
theorem leave_cell {fn : Func} {E : Env} {t : Nat} {tt : TypeId} {n bytes b o : Nat} {zv : Value} {cs : Array Value} {vs : List Value} {te : TypeId} {fz : Nat × Nat} (hr : fn.results = #[.cell t tt]) (hT : Ty P tt true n bytes zv)
    (hv : E t = .pointer (some ⟨b, o, none⟩)) (hb : h b = some (.cells cs te fz)) (hn : o + n ≤ cs.size) (hx : (cs.toList.drop o).take n = vs) (k : R (.agg vs.toArray) h N) : leave P w0 fn R E N [] h :=
  ⟨_, fun a w he hw => by
    have h1 := run_loadVarAgg hT hw hb hn hx
    have h2 : a.tmps[t]?.getD undef = .pointer (some ⟨b, o, none⟩) := by rw [← hv, ← he]; simp [env]
    simp [results, hr, h2, asAddr, h1], k⟩
theorem leave_cell_tmp {fn : Func} {E : Env} {t s : Nat} {tt : TypeId} {n bytes b o : Nat} {zv v : Value} {cs : Array Value} {vs : List Value} {te : TypeId} {fz : Nat × Nat} (hr : fn.results = #[.cell t tt, .tmp s]) (hT : Ty P tt true n bytes zv)
    (hv : E t = .pointer (some ⟨b, o, none⟩)) (hs : E s = v) (hb : h b = some (.cells cs te fz)) (hn : o + n ≤ cs.size) (hx : (cs.toList.drop o).take n = vs) (k : R (.tuple #[.agg vs.toArray, v]) h N) : leave P w0 fn R E N [] h :=
  ⟨_, fun a w he hw => by
    have h1 := run_loadVarAgg hT hw hb hn hx
    have h2 : a.tmps[t]?.getD undef = .pointer (some ⟨b, o, none⟩) := by rw [← hv, ← he]; simp [env]
    have h3 : a.tmps[s]?.getD undef = v := by rw [← hs, ← he]; simp [env]
    simp [results, hr, h2, h3, asAddr, h1], k⟩
end
end Sx
end Go.Proofs.YbulkcsqkGreat
