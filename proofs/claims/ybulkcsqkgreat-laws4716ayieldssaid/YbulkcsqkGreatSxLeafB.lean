import Derived.Test.YbulkcsqkGreatSxLeafA
namespace Go.Proofs.YbulkcsqkGreat
namespace Sx
set_option maxRecDepth 10000
set_option maxHeartbeats 1000000
section
variable {P : Program} {w0 : World} {r : Option Nat} {E : Env} {h : Hp} {N : Nat} {K : Value → Hp → Nat → Prop}
variable {d : Option Tmp} {ty : TypeId} {p : String} {af : Array Edge} {g : Option (Nat × Bool)} {x y : Operand} {t : TypeId}
theorem ok_neq_nil {ao : Option Addr} {n c : Nat} {t' : TypeId} {e : TypeId} (hT : P.underlying t = some (.slice e)) (hx : ev E x = .slice ao n c) (hy : ev E y = .slice none 0 0) (k : K (.bool (!ao.isNone)) h N) : opOk P w0 r ⟨d, .binOp .neq t x y t', ty, p, af, g⟩ E h N K :=
  ok_val (fun w => by
    have h1 : (binOp .neq t (.slice ao n c) (.slice none 0 0)).run P w = .ok (.bool (!ao.isNone)) w := by
      simp only [binOp, Sem.run_bind, run_equal_nil hT, Result.andThen, Sem.run_pure]
    have h2 : (eqGuard .neq t x y (.slice ao n c) (.slice none 0 0)).run P w = .ok () w := rfl
    simp only [execOp, hx, hy, Sem.run_bind, h1, h2, Result.andThen, Sem.run_pure]) k
theorem leave_tmp_cell {R : Value → Hp → Nat → Prop} {fn : Func} {E : Env} {t s : Nat} {tt : TypeId} {n bytes b o : Nat} {zv v : Value} {cs : Array Value} {vs : List Value} {te : TypeId} {fz : Nat × Nat} (hr : fn.results = #[.tmp s, .cell t tt]) (hT : Ty P tt true n bytes zv)
    (hv : E t = .pointer (some ⟨b, o, none⟩)) (hs : E s = v) (hb : h b = some (.cells cs te fz)) (hn : o + n ≤ cs.size) (hx : (cs.toList.drop o).take n = vs) (k : R (.tuple #[v, .agg vs.toArray]) h N) : leave P w0 fn R E N [] h :=
  ⟨_, fun a w he hw => by
    have h1 := run_loadVarAgg hT hw hb hn hx
    have h2 : a.tmps[t]?.getD undef = .pointer (some ⟨b, o, none⟩) := by rw [← hv, ← he]; simp [env]
    have h3 : a.tmps[s]?.getD undef = v := by rw [← hs, ← he]; simp [env]
    simp [results, hr, h2, h3, asAddr, h1], k⟩
end
section
variable {w0 : World} {h : Hp} {N : Nat}
/-- The node that an end stands for. -/
def atN (f : Bool) (d m : Nat) : Nat := if f = true then m + d else d
theorem at_ok {d m : Nat} {f : Bool} (hd : d ≤ 1000000) (hm : m ≤ 1000000) :
    CallsX Ybaz.prog w0 16 #[.agg #[.int .i64 (d : Int), .bool f], .int .i64 (m : Int)] h N (fun u h' N' => u = .int .i64 ((atN f d m : Nat) : Int) ∧ h' = hset h N (.cells #[.int .i64 (d : Int), .bool f] 46 (0, 0)) ∧ N' = N + 1 ∧ ∀ b, N ≤ b → h b = none) := by
  refine calls_of Ybaz.func16 rfl Ybaz.ntmps16 (Nat.le_of_ble_eq_true rfl) ?_
  refine c_seq ?_
  refine c_region (by kernel_rfl) ?_
  refine st (ok_box (v := .agg _) rfl rfl (fun hN2 => ?_))
  refine st_q (ok_assign (v := .int _ _) rfl ⟨rfl, rfl, rfl⟩) ?_
  refine o_nil ?_
  refine n_then ?_
  refine c_seq ?_
  refine c_seq ?_
  refine c_region (by kernel_rfl) ?_
  refine st_q (ok_fieldAddr (fld rfl) rfl ⟨rfl, rfl, rfl⟩) ?_
  refine st_q (ok_load (ty rfl) rfl (hset_same _ _ _) rfl ⟨rfl, rfl, rfl⟩) ?_
  refine o_nil ?_
  refine n_then ?_
  cases f
  · refine c_cond_false rfl ?_
    refine c_skip ?_
    refine n_then ?_
    refine c_seq ?_
    refine c_region (by kernel_rfl) ?_
    refine st_q (ok_fieldAddr (fld rfl) rfl ⟨rfl, rfl, rfl⟩) ?_
    refine st_q (ok_load (ty rfl) rfl (hset_same _ _ _) rfl ⟨rfl, rfl, rfl⟩) ?_
    refine st_q (ok_assign (v := .int _ _) rfl ⟨rfl, rfl, rfl⟩) ?_
    refine o_nil ?_
    refine n_then ?_
    refine c_ret ?_
    exact r_leave (leave_tmp rfl rfl ⟨rfl, rfl, rfl, hN2⟩)
  · refine c_cond_true rfl ?_
    refine c_seq ?_
    refine c_region (by kernel_rfl) ?_
    refine st_q (ok_move (v := .int _ _) rfl ⟨rfl, rfl, rfl⟩) ?_
    refine st_q (ok_fieldAddr (fld rfl) rfl ⟨rfl, rfl, rfl⟩) ?_
    refine st_q (ok_load (ty rfl) rfl (hset_same _ _ _) rfl ⟨rfl, rfl, rfl⟩) ?_
    refine st_q (ok_add rfl rfl (by omega) (by omega) ⟨rfl, rfl, rfl⟩) ?_
    refine st_q (ok_assign (v := .int _ _) rfl ⟨rfl, rfl, rfl⟩) ?_
    refine o_nil ?_
    refine n_then ?_
    refine c_ret ?_
    exact r_then (r_leave (leave_tmp rfl rfl ⟨by show Value.int .i64 ((m : Int) + (d : Int)) = _; simp [atN], rfl, rfl, hN2⟩))
theorem zzat_ok {d m : Nat} {f : Bool} (hd : d ≤ 1000000) (hm : m ≤ 1000000) :
    CallsX Ybaz.prog w0 6 #[.agg #[.int .i64 (d : Int), .bool f], .int .i64 (m : Int)] h N (fun u h' N' => u = .int .i64 ((atN f d m : Nat) : Int) ∧ h' = hset h N (.cells #[.int .i64 (d : Int), .bool f] 46 (0, 0)) ∧ N' = N + 1 ∧ ∀ b, N ≤ b → h b = none) := by
  refine calls_of Ybaz.func6 rfl Ybaz.ntmps6 (Nat.le_of_ble_eq_true rfl) ?_
  refine c_seq ?_
  refine c_region (by kernel_rfl) ?_
  refine st (ok_box (v := .agg _) rfl rfl (fun hN2 => ?_))
  refine st_q (ok_assign (v := .int _ _) rfl ⟨rfl, rfl, rfl⟩) ?_
  refine o_nil ?_
  refine n_then ?_
  refine c_seq ?_
  refine c_seq ?_
  refine c_region (by kernel_rfl) ?_
  refine st_q (ok_fieldAddr (fld rfl) rfl ⟨rfl, rfl, rfl⟩) ?_
  refine st_q (ok_load (ty rfl) rfl (hset_same _ _ _) rfl ⟨rfl, rfl, rfl⟩) ?_
  refine o_nil ?_
  refine n_then ?_
  cases f
  · refine c_cond_false rfl ?_
    refine c_skip ?_
    refine n_then ?_
    refine c_seq ?_
    refine c_region (by kernel_rfl) ?_
    refine st_q (ok_fieldAddr (fld rfl) rfl ⟨rfl, rfl, rfl⟩) ?_
    refine st_q (ok_load (ty rfl) rfl (hset_same _ _ _) rfl ⟨rfl, rfl, rfl⟩) ?_
    refine st_q (ok_assign (v := .int _ _) rfl ⟨rfl, rfl, rfl⟩) ?_
    refine o_nil ?_
    refine n_then ?_
    refine c_ret ?_
    exact r_leave (leave_tmp rfl rfl ⟨rfl, rfl, rfl, hN2⟩)
  · refine c_cond_true rfl ?_
    refine c_seq ?_
    refine c_region (by kernel_rfl) ?_
    refine st_q (ok_move (v := .int _ _) rfl ⟨rfl, rfl, rfl⟩) ?_
    refine st_q (ok_fieldAddr (fld rfl) rfl ⟨rfl, rfl, rfl⟩) ?_
    refine st_q (ok_load (ty rfl) rfl (hset_same _ _ _) rfl ⟨rfl, rfl, rfl⟩) ?_
    refine st_q (ok_add rfl rfl (by omega) (by omega) ⟨rfl, rfl, rfl⟩) ?_
    refine st_q (ok_assign (v := .int _ _) rfl ⟨rfl, rfl, rfl⟩) ?_
    refine o_nil ?_
    refine n_then ?_
    refine c_ret ?_
    exact r_then (r_leave (leave_tmp rfl rfl ⟨by show Value.int .i64 ((m : Int) + (d : Int)) = _; simp [atN], rfl, rfl, hN2⟩))

/-- A pattern's two ends. -/
def pcell (md a b n : Nat) : Array Value := #[.int .i64 ((a % n : Nat) : Int), .bool (decide (md % 3 = 0)), .int .i64 ((b % n : Nat) : Int), .bool (decide (md % 3 = 1))]
def poff (md a b n : Nat) : Nat := if md % 3 = 0 then a % n else if md % 3 = 1 then b % n else 0
theorem pattern_ok {md a b n : Nat} (hm : md < 256) (ha : a < 256) (hb : b < 256) (hn : 0 < n) (hl : n ≤ 1000) :
    CallsX Ybaz.prog w0 5 #[.int .u8 (md : Int), .int .u8 (a : Int), .int .u8 (b : Int), .int .i64 (n : Int)] h N (fun u h' _ => u = .tuple #[.agg (pcell md a b n), .int .i64 ((poff md a b n : Nat) : Int)] ∧ Ext h h') := by
  refine calls_of Ybaz.func5 rfl Ybaz.ntmps5 (Nat.le_of_ble_eq_true rfl) ?_
  refine c_seq ?_
  refine c_region (by kernel_rfl) ?_
  refine st (ok_alloc (ty rfl) rfl (fun hN8 => ?_))
  refine st_q (ok_assign (v := .int _ _) rfl ⟨rfl, rfl, rfl⟩) ?_
  refine o_nil ?_
  refine n_then ?_
  refine c_seq ?_
  refine c_seq ?_
  refine c_region (by kernel_rfl) ?_
  refine st_q (ok_move (v := .int _ _) rfl ⟨rfl, rfl, rfl⟩) ?_
  refine st_q (ok_convert (ik rfl) (ik rfl) rfl (wrap_i64 (by omega) (by omega)) ⟨rfl, rfl, rfl⟩) ?_
  refine st_q (ok_rem rfl rfl (by omega) (by omega) ⟨rfl, rfl, rfl⟩) ?_
  refine o_nil ?_
  refine n_then ?_
  refine c_block ?_
  refine c_seq ?_
  refine c_region (by kernel_rfl) ?_
  refine st_q (ok_eql rfl rfl ⟨rfl, rfl, rfl⟩) ?_
  refine st_q (ok_assign (v := .bool _) rfl ⟨rfl, rfl, rfl⟩) ?_
  refine o_nil ?_
  refine n_then ?_
  have hx : Ext h (hset (hset h N (.cells #[.int .i64 0, .bool false, .int .i64 0, .bool false] 47 (0, 0))) N (.cells (pcell md a b n) 47 (0, 0))) := by rw [hset_hset]; exact Ext.push hN8 _
  refine c_cond_prop rfl (fun hc => ?_) (fun hc => ?_)
  · skip
    have h1 : md % 3 = 0 := by omega
    have h2 : ¬ md % 3 = 1 := by omega
    refine c_seq ?_
    refine c_region (by kernel_rfl) ?_
    refine st_q (ok_move (v := .int _ _) rfl ⟨rfl, rfl, rfl⟩) ?_
    refine st_q (ok_convert (ik rfl) (ik rfl) rfl (wrap_i64 (by omega) (by omega)) ⟨rfl, rfl, rfl⟩) ?_
    refine st_q (ok_move (v := .int _ _) rfl ⟨rfl, rfl, rfl⟩) ?_
    refine st_q (ok_rem rfl rfl (by omega) (by omega) ⟨rfl, rfl, rfl⟩) ?_
    refine st_q (ok_assign (v := .int _ _) rfl ⟨rfl, rfl, rfl⟩) ?_
    refine o_nil ?_
    refine n_then ?_
    refine c_seq ?_
    refine c_region (by kernel_rfl) ?_
    refine st_q (ok_move (v := .int _ _) rfl ⟨rfl, rfl, rfl⟩) ?_
    refine st_q (ok_build rfl (v := .agg #[.int .i64 ((a % n : Nat) : Int), .bool true]) (fun _ => by kernel_rfl) ⟨rfl, rfl, rfl⟩) ?_
    refine st_q (ok_move (v := .int _ _) rfl ⟨rfl, rfl, rfl⟩) ?_
    refine st_q (ok_convert (ik rfl) (ik rfl) rfl (wrap_i64 (by omega) (by omega)) ⟨rfl, rfl, rfl⟩) ?_
    refine st_q (ok_move (v := .int _ _) rfl ⟨rfl, rfl, rfl⟩) ?_
    refine st_q (ok_rem rfl rfl (by omega) (by omega) ⟨rfl, rfl, rfl⟩) ?_
    refine st_q (ok_build rfl (v := .agg #[.int .i64 ((b % n : Nat) : Int), .bool false]) (fun _ => by kernel_rfl) ⟨rfl, rfl, rfl⟩) ?_
    refine st_q (ok_build rfl (v := .agg #[.int .i64 ((a % n : Nat) : Int), .bool true, .int .i64 ((b % n : Nat) : Int), .bool false]) (fun _ => by kernel_rfl) ⟨rfl, rfl, rfl⟩) ?_
    refine st_q (ok_move (v := .int _ _) rfl ⟨rfl, rfl, rfl⟩) ?_
    refine st0 (ok_storeL (ty rfl) rfl (v := .agg _) rfl rfl rfl rfl (hset_same _ _ _) (Nat.le_of_ble_eq_true rfl) ?_)
    refine st_q (ok_assign (v := .int _ _) rfl ⟨rfl, rfl, rfl⟩) ?_
    refine o_nil ?_
    refine n_then ?_
    refine c_ret ?_
    refine r_block (r_then ?_)
    have e1 : pcell md a b n = #[.int .i64 ((a % n : Nat) : Int), .bool true, .int .i64 ((b % n : Nat) : Int), .bool false] := by simp [pcell, h1]
    have e2 : poff md a b n = a % n := by simp [poff, h1]
    rw [e1] at hx ⊢; rw [e2]
    exact r_leave (leave_cell_tmp rfl (ty rfl) rfl rfl (hset_same _ _ _) (Nat.le_of_ble_eq_true rfl) rfl ⟨rfl, hx⟩)
  · skip
    have h1 : ¬ md % 3 = 0 := by omega
    refine c_seq ?_
    refine c_region (by kernel_rfl) ?_
    refine st_q (ok_eql rfl rfl ⟨rfl, rfl, rfl⟩) ?_
    refine st_q (ok_assign (v := .bool _) rfl ⟨rfl, rfl, rfl⟩) ?_
    refine o_nil ?_
    refine n_then ?_
    refine c_cond_prop rfl (fun hc2 => ?_) (fun hc2 => ?_)
    · skip
      have h2 : md % 3 = 1 := by omega
      refine c_seq ?_
      refine c_region (by kernel_rfl) ?_
      refine st_q (ok_move (v := .int _ _) rfl ⟨rfl, rfl, rfl⟩) ?_
      refine st_q (ok_convert (ik rfl) (ik rfl) rfl (wrap_i64 (by omega) (by omega)) ⟨rfl, rfl, rfl⟩) ?_
      refine st_q (ok_move (v := .int _ _) rfl ⟨rfl, rfl, rfl⟩) ?_
      refine st_q (ok_rem rfl rfl (by omega) (by omega) ⟨rfl, rfl, rfl⟩) ?_
      refine st_q (ok_assign (v := .int _ _) rfl ⟨rfl, rfl, rfl⟩) ?_
      refine o_nil ?_
      refine n_then ?_
      refine c_seq ?_
      refine c_region (by kernel_rfl) ?_
      refine st_q (ok_move (v := .int _ _) rfl ⟨rfl, rfl, rfl⟩) ?_
      refine st_q (ok_convert (ik rfl) (ik rfl) rfl (wrap_i64 (by omega) (by omega)) ⟨rfl, rfl, rfl⟩) ?_
      refine st_q (ok_move (v := .int _ _) rfl ⟨rfl, rfl, rfl⟩) ?_
      refine st_q (ok_rem rfl rfl (by omega) (by omega) ⟨rfl, rfl, rfl⟩) ?_
      refine st_q (ok_build rfl (v := .agg #[.int .i64 ((a % n : Nat) : Int), .bool false]) (fun _ => by kernel_rfl) ⟨rfl, rfl, rfl⟩) ?_
      refine st_q (ok_move (v := .int _ _) rfl ⟨rfl, rfl, rfl⟩) ?_
      refine st_q (ok_build rfl (v := .agg #[.int .i64 ((b % n : Nat) : Int), .bool true]) (fun _ => by kernel_rfl) ⟨rfl, rfl, rfl⟩) ?_
      refine st_q (ok_build rfl (v := .agg #[.int .i64 ((a % n : Nat) : Int), .bool false, .int .i64 ((b % n : Nat) : Int), .bool true]) (fun _ => by kernel_rfl) ⟨rfl, rfl, rfl⟩) ?_
      refine st_q (ok_move (v := .int _ _) rfl ⟨rfl, rfl, rfl⟩) ?_
      refine st0 (ok_storeL (ty rfl) rfl (v := .agg _) rfl rfl rfl rfl (hset_same _ _ _) (Nat.le_of_ble_eq_true rfl) ?_)
      refine st_q (ok_assign (v := .int _ _) rfl ⟨rfl, rfl, rfl⟩) ?_
      refine o_nil ?_
      refine n_then ?_
      refine c_ret ?_
      refine r_block (r_then ?_)
      have e1 : pcell md a b n = #[.int .i64 ((a % n : Nat) : Int), .bool false, .int .i64 ((b % n : Nat) : Int), .bool true] := by simp [pcell, h2]
      have e2 : poff md a b n = b % n := by simp [poff, h2]
      rw [e1] at hx ⊢; rw [e2]
      exact r_leave (leave_cell_tmp rfl (ty rfl) rfl rfl (hset_same _ _ _) (Nat.le_of_ble_eq_true rfl) rfl ⟨rfl, hx⟩)
    · skip
      have h2 : ¬ md % 3 = 1 := by omega
      refine c_skip ?_
      refine n_block (n_then ?_)
      refine c_seq ?_
      have e1 : pcell md a b n = #[.int .i64 ((a % n : Nat) : Int), .bool false, .int .i64 ((b % n : Nat) : Int), .bool false] := by simp [pcell, h1, h2]
      have e2 : poff md a b n = 0 := by simp [poff, h1, h2]
      rw [e1] at hx ⊢; rw [e2]
      refine c_cut (fun E h' _ D => D = [] ∧ h' = hset (hset h N (.cells #[.int .i64 0, .bool false, .int .i64 0, .bool false] 47 (0, 0))) N (.cells #[.int .i64 ((a % n : Nat) : Int), .bool false, .int .i64 ((b % n : Nat) : Int), .bool false] 47 (0, 0)) ∧ Fr E [(8, .pointer (some ⟨N, 0, none⟩)), (9, .int .i64 0)]) ?_ ?_
      · skip
        refine c_draw mixed [0, 0, 0, 0, 0, 0, 0, 0, 0, 0, 0, 2] 13 rfl [((0, 2), [((1, 2), [((2, 2), [((3, 2), [((4, 2), [((5, 2), [((6, 2), [((7, 2), [((8, 2), [((9, 2), [((10, 2), [((11, 0), [((12, 2), ())])])])])])])])])])])])])] (by kernel_rfl) (by kernel_rfl) ?_
        refine w_p rfl (fun _ _ => ok_move (v := .int _ _) rfl ⟨rfl, rfl, rfl⟩) ?_
        refine w_p rfl (fun _ _ => ok_convert (ik rfl) (ik rfl) rfl (wrap_i64 (by omega) (by omega)) ⟨rfl, rfl, rfl⟩) ?_
        refine w_p rfl (fun _ _ => ok_move (v := .int _ _) rfl ⟨rfl, rfl, rfl⟩) ?_
        refine w_p rfl (fun _ _ => ok_rem rfl rfl (by omega) (by omega) ⟨rfl, rfl, rfl⟩) ?_
        refine w_p rfl (fun _ _ => ok_build rfl (v := .agg #[.int .i64 ((a % n : Nat) : Int), .bool false]) (fun _ => by kernel_rfl) ⟨rfl, rfl, rfl⟩) ?_
        refine w_p rfl (fun _ _ => ok_move (v := .int _ _) rfl ⟨rfl, rfl, rfl⟩) ?_
        refine w_p rfl (fun _ _ => ok_convert (ik rfl) (ik rfl) rfl (wrap_i64 (by omega) (by omega)) ⟨rfl, rfl, rfl⟩) ?_
        refine w_p rfl (fun _ _ => ok_move (v := .int _ _) rfl ⟨rfl, rfl, rfl⟩) ?_
        refine w_p rfl (fun _ _ => ok_rem rfl rfl (by omega) (by omega) ⟨rfl, rfl, rfl⟩) ?_
        refine w_p rfl (fun _ _ => ok_build rfl (v := .agg #[.int .i64 ((b % n : Nat) : Int), .bool false]) (fun _ => by kernel_rfl) ⟨rfl, rfl, rfl⟩) ?_
        refine w_p rfl (fun _ _ => ok_build rfl (v := .agg #[.int .i64 ((a % n : Nat) : Int), .bool false, .int .i64 ((b % n : Nat) : Int), .bool false]) (fun _ => by kernel_rfl) ⟨rfl, rfl, rfl⟩) ?_
        refine w_e0 rfl (ok_storeL (ty rfl) rfl (v := .agg _) rfl rfl rfl rfl (hset_same _ _ _) (Nat.le_of_ble_eq_true rfl) ⟨trivial, ?_⟩)
        refine w_p rfl (fun _ _ => ok_assign (v := .int _ _) rfl ⟨rfl, rfl, rfl⟩) ?_
        refine w_nil ?_
        exact n_then ⟨rfl, rfl, rfl, rfl, trivial⟩
      rintro E h' N' D ⟨rfl, rfl, hE⟩
      obtain ⟨E0, rfl⟩ := hE.ex
      refine n_then ?_
      refine c_ret ?_
      exact r_leave (leave_cell_tmp rfl (ty rfl) rfl rfl (hset_same _ _ _) (Nat.le_of_ble_eq_true rfl) rfl ⟨rfl, hx⟩)

theorem unimplied_ok {pc : Array Value} :
    CallsX Ybaz.prog w0 7 #[.agg pc] h N (fun u h' N' => u = .func (.func 8) #[] #[.pointer (some ⟨N, 0, none⟩)] ∧ h' = hset h N (.cells pc 39 (0, 0)) ∧ N' = N + 1 ∧ ∀ b, N ≤ b → h b = none) := by
  refine calls_of Ybaz.func7 rfl Ybaz.ntmps7 (Nat.le_of_ble_eq_true rfl) ?_
  refine c_seq ?_
  refine c_region (by kernel_rfl) ?_
  refine st (ok_box (v := .agg _) rfl rfl (fun hN1 => ?_))
  refine st_q (ok_assign (v := .nilFunc) rfl ⟨rfl, rfl, rfl⟩) ?_
  refine o_nil ?_
  refine n_then ?_
  refine c_seq ?_
  refine c_region (by kernel_rfl) ?_
  refine st_q (ok_makeFunc rfl rfl ⟨rfl, rfl, rfl⟩) ?_
  refine st_q (ok_assign (v := .func _ _ _) rfl ⟨rfl, rfl, rfl⟩) ?_
  refine o_nil ?_
  refine n_then ?_
  refine c_ret ?_
  exact r_leave (leave_tmp rfl rfl ⟨rfl, rfl, rfl, hN1⟩)

/-- unimplied's lookup: the row or the column of an edge's own end, and the member's end. -/
theorem lookup_ok {bc rb1 rb2 W L x0 x1 : Nat} {f0 f1 : Bool} {cs : Array Value} {te : TypeId} {fz : Nat × Nat} (hb : h bc = some (.cells cs te fz)) (c0 : cs[0]? = some (.int .i64 W)) (c1 : cs[0 + 1]? = some (.slice (some ⟨rb1, 0, none⟩) L L)) (c2 : cs[0 + 2]? = some (.slice (some ⟨rb2, 0, none⟩) L L))
    (h0 : (x0 + 1) * W ≤ L) (h1 : (x1 + 1) * W ≤ L) (hW : 0 < W) (hL : L ≤ 1000000) :
    CallsX Ybaz.prog w0 13 #[.agg #[.int .i64 (x0 : Int), .bool f0, .int .i64 (x1 : Int), .bool f1], .pointer (some ⟨bc, 0, none⟩)] h N
      (fun u h' _ => Ext h h' ∧ u = .tuple (if f0 = true then #[.slice (some ⟨rb2, x1 * W, none⟩) W (L - x1 * W), .agg #[.int .i64 (x0 : Int), .bool f0]] else #[.slice (some ⟨rb1, x0 * W, none⟩) W (L - x0 * W), .agg #[.int .i64 (x1 : Int), .bool f1]])) := by
  refine calls_of Ybaz.func13 rfl Ybaz.ntmps13 (Nat.le_of_ble_eq_true rfl) ?_
  refine c_seq ?_
  refine c_region (by kernel_rfl) ?_
  refine st (ok_box (v := .agg _) rfl rfl (fun hN2 => ?_))
  refine st_q (ok_assign (v := .slice _ _ _) rfl ⟨rfl, rfl, rfl⟩) ?_
  refine st (ok_alloc (ty rfl) rfl (fun hN4 => ?_))
  refine o_nil ?_
  refine n_then ?_
  have hx1 := (Ext.push hN2 (.cells #[.int .i64 (x0 : Int), .bool f0, .int .i64 (x1 : Int), .bool f1] 47 (0, 0))).trans (Ext.push hN4 (.cells #[.int .i64 0, .bool false] 46 (0, 0)))
  have hb1 := hx1 _ _ hb
  have g2 : (hset (hset h N (.cells #[.int .i64 (x0 : Int), .bool f0, .int .i64 (x1 : Int), .bool f1] 47 (0, 0))) (N + 1) (.cells #[.int .i64 0, .bool false] 46 (0, 0))) N = _ := (hset_ne _ _ (by omega)).trans (hset_same _ _ _)
  refine c_seq ?_
  refine c_seq ?_
  refine c_region (by kernel_rfl) ?_
  refine st_q (ok_indexAddrA (ar rfl) (ty rfl) rfl rfl (by omega) (by omega) rfl ⟨rfl, rfl, rfl⟩) ?_
  refine st_q (ok_fieldAddr (fld rfl) rfl ⟨rfl, rfl, rfl⟩) ?_
  refine st_q (ok_load (ty rfl) rfl g2 rfl ⟨rfl, rfl, rfl⟩) ?_
  refine o_nil ?_
  refine n_then ?_
  cases f0
  · refine c_cond_false rfl ?_
    refine c_skip ?_
    refine n_then ?_
    refine c_seq ?_
    refine c_cut (fun E h' _ D => D = [] ∧ h' = hset (hset (hset h N (.cells #[.int .i64 (x0 : Int), .bool false, .int .i64 (x1 : Int), .bool f1] 47 (0, 0))) (N + 1) (.cells #[.int .i64 0, .bool false] 46 (0, 0))) (N + 1) (.cells #[.int .i64 (x1 : Int), .bool f1] 46 (0, 0)) ∧ Fr E [(3, .slice (some ⟨rb1, x0 * W, none⟩) W (L - x0 * W)), (4, .pointer (some ⟨N + 1, 0, none⟩))]) ?_ ?_
    · skip
      refine c_draw mixed [0, 0, 0, 0, 0, 0, 0, 2] 8 rfl [((0, 2), [((1, 2), [((2, 1), [((3, 1), [((4, 2), [((5, 1), [((6, 2), [((7, 0), ())])])])])])])])] (by kernel_rfl) (by kernel_rfl) ?_
      refine w_p rfl (fun _ _ => ok_indexAddrA (ar rfl) (ty rfl) rfl rfl (by omega) (by omega) rfl ⟨rfl, rfl, rfl⟩) ?_
      refine w_p rfl (fun _ _ => ok_fieldAddr (fld rfl) rfl ⟨rfl, rfl, rfl⟩) ?_
      refine w_r rfl (fun _ _ hExt => ok_load (ty rfl) rfl (hExt _ _ g2) rfl ⟨rfl, rfl, rfl⟩) ?_
      refine w_r rfl (fun h' N' hExt => ok_call rfl ent15 (row_ok (hExt _ _ hb1) c0 c1 h0 hW hL) rfl (fun _ _ _ hR => hR)) ?_
      refine w_p rfl (fun _ _ => ok_indexAddrA (ar rfl) (ty rfl) rfl rfl (by omega) (by omega) rfl ⟨rfl, rfl, rfl⟩) ?_
      refine w_r rfl (fun _ _ hExt => ok_loadAgg (ty rfl) rfl (hExt _ _ g2) (Nat.le_of_ble_eq_true rfl) rfl ⟨rfl, rfl, rfl⟩) ?_
      refine w_p rfl (fun _ _ => ok_assign (v := .slice _ _ _) rfl ⟨rfl, rfl, rfl⟩) ?_
      refine w_e0 rfl (ok_storeL (ty rfl) rfl (v := .agg _) rfl rfl rfl rfl (hset_same _ _ _) (Nat.le_of_ble_eq_true rfl) ⟨trivial, ?_⟩)
      refine w_nil ?_
      exact n_then ⟨rfl, rfl, rfl, rfl, trivial⟩
    rintro E h' N' D ⟨rfl, rfl, hE⟩
    obtain ⟨E0, rfl⟩ := hE.ex
    refine n_then ?_
    refine c_ret ?_
    refine r_leave (leave_tmp_cell rfl (ty rfl) rfl rfl (hset_same _ _ _) (Nat.le_of_ble_eq_true rfl) rfl ⟨?_, rfl⟩)
    rw [hset_hset]
    exact (Ext.push hN2 _).trans (Ext.push hN4 _)
  · refine c_cond_true rfl ?_
    refine c_seq ?_
    refine c_cut (fun E h' _ D => D = [] ∧ h' = hset (hset (hset h N (.cells #[.int .i64 (x0 : Int), .bool true, .int .i64 (x1 : Int), .bool f1] 47 (0, 0))) (N + 1) (.cells #[.int .i64 0, .bool false] 46 (0, 0))) (N + 1) (.cells #[.int .i64 (x0 : Int), .bool true] 46 (0, 0)) ∧ Fr E [(3, .slice (some ⟨rb2, x1 * W, none⟩) W (L - x1 * W)), (4, .pointer (some ⟨N + 1, 0, none⟩))]) ?_ ?_
    · skip
      refine c_draw mixed [0, 0, 0, 0, 0, 0, 0, 2] 8 rfl [((0, 2), [((1, 2), [((2, 1), [((3, 1), [((4, 2), [((5, 1), [((6, 2), [((7, 0), ())])])])])])])])] (by kernel_rfl) (by kernel_rfl) ?_
      refine w_p rfl (fun _ _ => ok_indexAddrA (ar rfl) (ty rfl) rfl rfl (by omega) (by omega) rfl ⟨rfl, rfl, rfl⟩) ?_
      refine w_p rfl (fun _ _ => ok_fieldAddr (fld rfl) rfl ⟨rfl, rfl, rfl⟩) ?_
      refine w_r rfl (fun _ _ hExt => ok_load (ty rfl) rfl (hExt _ _ g2) rfl ⟨rfl, rfl, rfl⟩) ?_
      refine w_r rfl (fun h' N' hExt => ok_call rfl ent14 (col_ok (hExt _ _ hb1) c0 c2 h1 hW hL) rfl (fun _ _ _ hR => hR)) ?_
      refine w_p rfl (fun _ _ => ok_indexAddrA (ar rfl) (ty rfl) rfl rfl (by omega) (by omega) rfl ⟨rfl, rfl, rfl⟩) ?_
      refine w_r rfl (fun _ _ hExt => ok_loadAgg (ty rfl) rfl (hExt _ _ g2) (Nat.le_of_ble_eq_true rfl) rfl ⟨rfl, rfl, rfl⟩) ?_
      refine w_p rfl (fun _ _ => ok_assign (v := .slice _ _ _) rfl ⟨rfl, rfl, rfl⟩) ?_
      refine w_e0 rfl (ok_storeL (ty rfl) rfl (v := .agg _) rfl rfl rfl rfl (hset_same _ _ _) (Nat.le_of_ble_eq_true rfl) ⟨trivial, ?_⟩)
      refine w_nil ?_
      exact n_then ⟨rfl, rfl, rfl, rfl, trivial⟩
    rintro E h' N' D ⟨rfl, rfl, hE⟩
    obtain ⟨E0, rfl⟩ := hE.ex
    refine n_then ?_
    refine c_ret ?_
    refine r_then (r_leave (leave_tmp_cell rfl (ty rfl) rfl rfl (hset_same _ _ _) (Nat.le_of_ble_eq_true rfl) rfl ⟨?_, rfl⟩))
    rw [hset_hset]
    exact (Ext.push hN2 _).trans (Ext.push hN4 _)
end
end Sx
end Go.Proofs.YbulkcsqkGreat
