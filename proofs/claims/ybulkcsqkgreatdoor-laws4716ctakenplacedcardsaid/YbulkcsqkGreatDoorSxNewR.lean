import Derived.Test.YbulkcsqkGreatDoorSxNew
namespace Go.Proofs.YbulkcsqkGreatDoor
namespace Sx
set_option maxRecDepth 10000
set_option maxHeartbeats 4000000
variable {w0 : World}

section
variable {h : Hp} {N bs0 bo n n0 c0 cc co nc : Nat} {sc oc : Array Value} {fs fo : Nat × Nat} {a0 an : Option Addr}

/-- A new resolver over an empty polygraph. -/
def Made (h0 : Hp) (n br : Nat) (h : Hp) : Prop :=
  ∃ rc bpl bs bp pl, h br = some (.cells rc 70 (0, 0)) ∧ rc.size = 83 ∧ rc[39]? = some (.slice none 0 0) ∧ rc[51]? = some (.slice (some ⟨bpl, 0, none⟩) n n) ∧ rc[54]? = some (.slice (some ⟨bs, 0, none⟩) n n) ∧ rc[55]? = some (.slice (some ⟨bp, 0, none⟩) n n) ∧ rc[56]? = some (.int .i64 0) ∧ rc[57]? = some (.slice none 0 0) ∧
    h bpl = some (.cells pl 3 (0, 0)) ∧ (∀ i, i < n → pl[i]? = some (.int .i64 (i : Int))) ∧ h bs = some (.cells (Array.replicate n (.slice none 0 0)) 25 (0, 0)) ∧ h bp = some (.cells (Array.replicate n (.slice none 0 0)) 25 (0, 0)) ∧ bs ≠ bp ∧ h0 bs = none ∧ h0 bp = none

theorem newResolver_ok (hs : h bs0 = some (.cells sc 25 fs)) (hsv : ∀ i, i < n → sc[i]? = some (.slice none 0 0)) (ho : h bo = some (.cells oc 3 fo)) (hov : ∀ i, i < n → oc[i]? = some (.int .i64 (i : Int))) (hos : oc.size = n) (hn : n ≤ 64) (hn0 : 0 < n) :
    CallsX Ybaz.prog w0 4 #[.agg #[.slice an n nc, .slice none 0 0, .slice none 0 0, .slice none 0 0, .slice none 0 0, .slice none 0 0, .nilFunc, .nilFunc, .nilFunc], .agg #[.slice a0 n0 c0, .slice (some ⟨bs0, 0, none⟩) n cc, .slice none 0 0, .slice none 0 0, .slice none 0 0], .slice (some ⟨bo, 0, none⟩) n co, .int .u8 0] h N (fun v h' _ => Ext h h' ∧ ∃ br, v = .pointer (some ⟨br, 0, none⟩) ∧ h br = none ∧ Made h n br h') := by
  have eW : ((n : Int) + 63) / 64 = ((1 : Nat) : Int) := by omega
  have eM : (n : Int) * ((1 : Nat) : Int) = n := by omega
  refine calls_of Ybaz.func4 rfl Ybaz.ntmps4 (Nat.le_of_ble_eq_true rfl) ?_
  refine c_seq ?_
  refine c_region (by kernel_rfl) ?_
  refine st (ok_box (v := .agg _) rfl rfl (fun hN4 => ?_))
  refine st (ok_box (v := .agg _) rfl rfl (fun hN5 => ?_))
  refine st_q (ok_assign (v := .pointer _) rfl ⟨rfl, rfl, rfl⟩) ?_
  refine o_nil ?_
  have hx1 : Ext h _ := (Ext.push hN4 (.cells #[.slice an n nc, .slice none 0 0, .slice none 0 0, .slice none 0 0, .slice none 0 0, .slice none 0 0, .nilFunc, .nilFunc, .nilFunc] 36 (0, 0))).trans (Ext.push hN5 (.cells #[.slice a0 n0 c0, .slice (some ⟨bs0, 0, none⟩) n cc, .slice none 0 0, .slice none 0 0, .slice none 0 0] 39 (0, 0)))
  refine c_heap (fun h' _ => Ext h h' ∧ h' N = some (.cells #[.slice an n nc, .slice none 0 0, .slice none 0 0, .slice none 0 0, .slice none 0 0, .slice none 0 0, .nilFunc, .nilFunc, .nilFunc] 36 (0, 0)) ∧ h' (N + 1) = some (.cells #[.slice a0 n0 c0, .slice (some ⟨bs0, 0, none⟩) n cc, .slice none 0 0, .slice none 0 0, .slice none 0 0] 39 (0, 0))) ⟨hx1, Ext.push hN5 (.cells #[.slice a0 n0 c0, .slice (some ⟨bs0, 0, none⟩) n cc, .slice none 0 0, .slice none 0 0, .slice none 0 0] 39 (0, 0)) _ _ (hset_same _ _ _), hset_same _ _ _⟩ ?_
  clear hx1
  rintro h1 N1 ⟨hx1, g4, g5⟩
  refine c_seq ?_
  refine c_region (by kernel_rfl) ?_
  refine st_q (ok_fieldAddr (fld rfl) rfl ⟨rfl, rfl, rfl⟩) ?_
  refine st_q (ok_load (ty rfl) rfl g4 (by rfl) ⟨rfl, rfl, rfl⟩) ?_
  refine st_q (ok_len (sl rfl) rfl ⟨rfl, rfl, rfl⟩) ?_
  refine st_q (ok_assign (v := .int _ _) rfl ⟨rfl, rfl, rfl⟩) ?_
  refine o_nil ?_
  refine n_then ?_
  refine c_seq ?_
  refine c_region (by kernel_rfl) ?_
  refine st_q (ok_loadAgg (ty rfl) rfl g4 (Nat.le_of_ble_eq_true rfl) rfl ⟨rfl, rfl, rfl⟩) ?_
  refine st_q (ok_move (v := .int _ _) rfl ⟨rfl, rfl, rfl⟩) ?_
  refine st_q (ok_move (v := .int _ _) rfl ⟨rfl, rfl, rfl⟩) ?_
  refine st_q (ok_build rfl (v := .agg #[.int .i64 0, .slice none 0 0, .slice none 0 0, .slice an n nc, .slice none 0 0, .slice none 0 0, .slice none 0 0, .slice none 0 0, .slice none 0 0, .nilFunc, .nilFunc, .nilFunc, .slice none 0 0, .slice none 0 0, .slice none 0 0, .slice none 0 0, .slice none 0 0, .slice none 0 0, .pointer none, .slice none 0 0, .int .i64 0, .slice none 0 0, .slice none 0 0, .int .i64 0, .int .i64 0, .slice none 0 0, .slice none 0 0, .slice none 0 0, .slice none 0 0, .slice none 0 0, .slice none 0 0, .slice none 0 0, .bool false, .int .i64 0, .slice none 0 0, .slice none 0 0, .slice none 0 0, .int .i64 (n : Int), .slice none 0 0, .slice none 0 0, .slice none 0 0, .slice none 0 0, .slice none 0 0, .bool false, .slice none 0 0, .slice none 0 0, .slice none 0 0, .slice none 0 0, .slice none 0 0, .slice none 0 0, .bool false, .slice none 0 0, .slice none 0 0, .slice none 0 0, .slice none 0 0, .slice none 0 0, .int .i64 0, .slice none 0 0, .int .i64 0, .slice none 0 0, .slice none 0 0, .int .i64 0, .slice none 0 0, .slice none 0 0, .slice none 0 0, .slice none 0 0, .int .i64 0, .slice none 0 0, .slice none 0 0, .slice none 0 0, .slice none 0 0, .slice none 0 0, .int .i64 0, .slice none 0 0, .int .i64 0, .slice none 0 0, .int .u8 0, .int .i64 0, .slice none 0 0, .pointer none, .bool false, .bool false, .slice none 0 0]) (fun _ => by kernel_rfl) ⟨rfl, rfl, rfl⟩) ?_
  refine st (ok_box (v := .agg _) rfl rfl (fun hN18 => ?_))
  refine st_q (ok_assign (v := .pointer _) rfl ⟨rfl, rfl, rfl⟩) ?_
  refine o_nil ?_
  refine n_then ?_
  refine c_seq ?_
  refine c_region (by kernel_rfl) ?_
  refine st_q (ok_move (v := .pointer _) rfl ⟨rfl, rfl, rfl⟩) ?_
  refine st_q (ok_move (v := .int _ _) rfl ⟨rfl, rfl, rfl⟩) ?_
  refine st_q (ok_add rfl rfl (by omega) (by omega) ⟨rfl, rfl, rfl⟩) ?_
  refine st_q (v := .int .i64 ((1 : Nat) : Int)) (ok_quo rfl rfl (by omega) (by omega) (by omega) ⟨by rw [eW], rfl, rfl⟩) ?_
  refine st_q (ok_nilCheck_ptr rfl ⟨rfl, rfl, rfl⟩) ?_
  refine st_q (ok_fieldAddr (fld rfl) rfl ⟨rfl, rfl, rfl⟩) ?_
  refine st_q (ok_fieldAddr (fld rfl) rfl ⟨rfl, rfl, rfl⟩) ?_
  refine st0 (ok_store (ty rfl) rfl (v := .int _ _) rfl rfl (hset_same _ _ _) (Nat.le_of_ble_eq_true rfl) ?_)
  refine o_nil ?_
  refine n_then ?_
  refine c_seq ?_
  have e1 := Ext.push hN18 (.cells #[.int .i64 0, .slice none 0 0, .slice none 0 0, .slice an n nc, .slice none 0 0, .slice none 0 0, .slice none 0 0, .slice none 0 0, .slice none 0 0, .nilFunc, .nilFunc, .nilFunc, .slice none 0 0, .slice none 0 0, .slice none 0 0, .slice none 0 0, .slice none 0 0, .slice none 0 0, .pointer none, .slice none 0 0, .int .i64 0, .slice none 0 0, .slice none 0 0, .int .i64 0, .int .i64 0, .slice none 0 0, .slice none 0 0, .slice none 0 0, .slice none 0 0, .slice none 0 0, .slice none 0 0, .slice none 0 0, .bool false, .int .i64 0, .slice none 0 0, .slice none 0 0, .slice none 0 0, .int .i64 (n : Int), .slice none 0 0, .slice none 0 0, .slice none 0 0, .slice none 0 0, .slice none 0 0, .bool false, .slice none 0 0, .slice none 0 0, .slice none 0 0, .slice none 0 0, .slice none 0 0, .slice none 0 0, .bool false, .slice none 0 0, .slice none 0 0, .slice none 0 0, .slice none 0 0, .slice none 0 0, .int .i64 0, .slice none 0 0, .int .i64 0, .slice none 0 0, .slice none 0 0, .int .i64 0, .slice none 0 0, .slice none 0 0, .slice none 0 0, .slice none 0 0, .int .i64 0, .slice none 0 0, .slice none 0 0, .slice none 0 0, .slice none 0 0, .slice none 0 0, .int .i64 0, .slice none 0 0, .int .i64 0, .slice none 0 0, .int .u8 0, .int .i64 0, .slice none 0 0, .pointer none, .bool false, .bool false, .slice none 0 0] 70 (0, 0))
  have hb1 : h1 N1 = none := hN18 _ (Nat.le_refl _)
  have hnn : ∀ b, h1 b = none → h b = none := fun b hb => by
    cases e : h b with
    | none => rfl
    | some o => rw [hx1 _ _ e] at hb; cases hb
  have eA : hset (hset h1 N1 (.cells #[.int .i64 0, .slice none 0 0, .slice none 0 0, .slice an n nc, .slice none 0 0, .slice none 0 0, .slice none 0 0, .slice none 0 0, .slice none 0 0, .nilFunc, .nilFunc, .nilFunc, .slice none 0 0, .slice none 0 0, .slice none 0 0, .slice none 0 0, .slice none 0 0, .slice none 0 0, .pointer none, .slice none 0 0, .int .i64 0, .slice none 0 0, .slice none 0 0, .int .i64 0, .int .i64 0, .slice none 0 0, .slice none 0 0, .slice none 0 0, .slice none 0 0, .slice none 0 0, .slice none 0 0, .slice none 0 0, .bool false, .int .i64 0, .slice none 0 0, .slice none 0 0, .slice none 0 0, .int .i64 (n : Int), .slice none 0 0, .slice none 0 0, .slice none 0 0, .slice none 0 0, .slice none 0 0, .bool false, .slice none 0 0, .slice none 0 0, .slice none 0 0, .slice none 0 0, .slice none 0 0, .slice none 0 0, .bool false, .slice none 0 0, .slice none 0 0, .slice none 0 0, .slice none 0 0, .slice none 0 0, .int .i64 0, .slice none 0 0, .int .i64 0, .slice none 0 0, .slice none 0 0, .int .i64 0, .slice none 0 0, .slice none 0 0, .slice none 0 0, .slice none 0 0, .int .i64 0, .slice none 0 0, .slice none 0 0, .slice none 0 0, .slice none 0 0, .slice none 0 0, .int .i64 0, .slice none 0 0, .int .i64 0, .slice none 0 0, .int .u8 0, .int .i64 0, .slice none 0 0, .pointer none, .bool false, .bool false, .slice none 0 0] 70 (0, 0))) N1 (.cells (setA #[.int .i64 0, .slice none 0 0, .slice none 0 0, .slice an n nc, .slice none 0 0, .slice none 0 0, .slice none 0 0, .slice none 0 0, .slice none 0 0, .nilFunc, .nilFunc, .nilFunc, .slice none 0 0, .slice none 0 0, .slice none 0 0, .slice none 0 0, .slice none 0 0, .slice none 0 0, .pointer none, .slice none 0 0, .int .i64 0, .slice none 0 0, .slice none 0 0, .int .i64 0, .int .i64 0, .slice none 0 0, .slice none 0 0, .slice none 0 0, .slice none 0 0, .slice none 0 0, .slice none 0 0, .slice none 0 0, .bool false, .int .i64 0, .slice none 0 0, .slice none 0 0, .slice none 0 0, .int .i64 (n : Int), .slice none 0 0, .slice none 0 0, .slice none 0 0, .slice none 0 0, .slice none 0 0, .bool false, .slice none 0 0, .slice none 0 0, .slice none 0 0, .slice none 0 0, .slice none 0 0, .slice none 0 0, .bool false, .slice none 0 0, .slice none 0 0, .slice none 0 0, .slice none 0 0, .slice none 0 0, .int .i64 0, .slice none 0 0, .int .i64 0, .slice none 0 0, .slice none 0 0, .int .i64 0, .slice none 0 0, .slice none 0 0, .slice none 0 0, .slice none 0 0, .int .i64 0, .slice none 0 0, .slice none 0 0, .slice none 0 0, .slice none 0 0, .slice none 0 0, .int .i64 0, .slice none 0 0, .int .i64 0, .slice none 0 0, .int .u8 0, .int .i64 0, .slice none 0 0, .pointer none, .bool false, .bool false, .slice none 0 0] 0 (.int .i64 ((1 : Nat) : Int))) 70 (0, 0)) = hset h1 N1 (.cells (setA #[.int .i64 0, .slice none 0 0, .slice none 0 0, .slice an n nc, .slice none 0 0, .slice none 0 0, .slice none 0 0, .slice none 0 0, .slice none 0 0, .nilFunc, .nilFunc, .nilFunc, .slice none 0 0, .slice none 0 0, .slice none 0 0, .slice none 0 0, .slice none 0 0, .slice none 0 0, .pointer none, .slice none 0 0, .int .i64 0, .slice none 0 0, .slice none 0 0, .int .i64 0, .int .i64 0, .slice none 0 0, .slice none 0 0, .slice none 0 0, .slice none 0 0, .slice none 0 0, .slice none 0 0, .slice none 0 0, .bool false, .int .i64 0, .slice none 0 0, .slice none 0 0, .slice none 0 0, .int .i64 (n : Int), .slice none 0 0, .slice none 0 0, .slice none 0 0, .slice none 0 0, .slice none 0 0, .bool false, .slice none 0 0, .slice none 0 0, .slice none 0 0, .slice none 0 0, .slice none 0 0, .slice none 0 0, .bool false, .slice none 0 0, .slice none 0 0, .slice none 0 0, .slice none 0 0, .slice none 0 0, .int .i64 0, .slice none 0 0, .int .i64 0, .slice none 0 0, .slice none 0 0, .int .i64 0, .slice none 0 0, .slice none 0 0, .slice none 0 0, .slice none 0 0, .int .i64 0, .slice none 0 0, .slice none 0 0, .slice none 0 0, .slice none 0 0, .slice none 0 0, .int .i64 0, .slice none 0 0, .int .i64 0, .slice none 0 0, .int .u8 0, .int .i64 0, .slice none 0 0, .pointer none, .bool false, .bool false, .slice none 0 0] 0 (.int .i64 ((1 : Nat) : Int))) 70 (0, 0)) := hset_hset _ _ _ _
  refine c_heap (fun h' N' => Ext h h' ∧ Ext h1 h' ∧ h' N1 = some (.cells (setA #[.int .i64 0, .slice none 0 0, .slice none 0 0, .slice an n nc, .slice none 0 0, .slice none 0 0, .slice none 0 0, .slice none 0 0, .slice none 0 0, .nilFunc, .nilFunc, .nilFunc, .slice none 0 0, .slice none 0 0, .slice none 0 0, .slice none 0 0, .slice none 0 0, .slice none 0 0, .pointer none, .slice none 0 0, .int .i64 0, .slice none 0 0, .slice none 0 0, .int .i64 0, .int .i64 0, .slice none 0 0, .slice none 0 0, .slice none 0 0, .slice none 0 0, .slice none 0 0, .slice none 0 0, .slice none 0 0, .bool false, .int .i64 0, .slice none 0 0, .slice none 0 0, .slice none 0 0, .int .i64 (n : Int), .slice none 0 0, .slice none 0 0, .slice none 0 0, .slice none 0 0, .slice none 0 0, .bool false, .slice none 0 0, .slice none 0 0, .slice none 0 0, .slice none 0 0, .slice none 0 0, .slice none 0 0, .bool false, .slice none 0 0, .slice none 0 0, .slice none 0 0, .slice none 0 0, .slice none 0 0, .int .i64 0, .slice none 0 0, .int .i64 0, .slice none 0 0, .slice none 0 0, .int .i64 0, .slice none 0 0, .slice none 0 0, .slice none 0 0, .slice none 0 0, .int .i64 0, .slice none 0 0, .slice none 0 0, .slice none 0 0, .slice none 0 0, .slice none 0 0, .int .i64 0, .slice none 0 0, .int .i64 0, .slice none 0 0, .int .u8 0, .int .i64 0, .slice none 0 0, .pointer none, .bool false, .bool false, .slice none 0 0] 0 (.int .i64 ((1 : Nat) : Int))) 70 (0, 0)) ∧ h' (N + 1) = some (.cells #[.slice a0 n0 c0, .slice (some ⟨bs0, 0, none⟩) n cc, .slice none 0 0, .slice none 0 0, .slice none 0 0] 39 (0, 0)) ∧ N' = N1 + 1) ?_ ?_
  · have ex := Ext.push hN18 (.cells (setA #[.int .i64 0, .slice none 0 0, .slice none 0 0, .slice an n nc, .slice none 0 0, .slice none 0 0, .slice none 0 0, .slice none 0 0, .slice none 0 0, .nilFunc, .nilFunc, .nilFunc, .slice none 0 0, .slice none 0 0, .slice none 0 0, .slice none 0 0, .slice none 0 0, .slice none 0 0, .pointer none, .slice none 0 0, .int .i64 0, .slice none 0 0, .slice none 0 0, .int .i64 0, .int .i64 0, .slice none 0 0, .slice none 0 0, .slice none 0 0, .slice none 0 0, .slice none 0 0, .slice none 0 0, .slice none 0 0, .bool false, .int .i64 0, .slice none 0 0, .slice none 0 0, .slice none 0 0, .int .i64 (n : Int), .slice none 0 0, .slice none 0 0, .slice none 0 0, .slice none 0 0, .slice none 0 0, .bool false, .slice none 0 0, .slice none 0 0, .slice none 0 0, .slice none 0 0, .slice none 0 0, .slice none 0 0, .bool false, .slice none 0 0, .slice none 0 0, .slice none 0 0, .slice none 0 0, .slice none 0 0, .int .i64 0, .slice none 0 0, .int .i64 0, .slice none 0 0, .slice none 0 0, .int .i64 0, .slice none 0 0, .slice none 0 0, .slice none 0 0, .slice none 0 0, .int .i64 0, .slice none 0 0, .slice none 0 0, .slice none 0 0, .slice none 0 0, .slice none 0 0, .int .i64 0, .slice none 0 0, .int .i64 0, .slice none 0 0, .int .u8 0, .int .i64 0, .slice none 0 0, .pointer none, .bool false, .bool false, .slice none 0 0] 0 (.int .i64 ((1 : Nat) : Int))) 70 (0, 0))
    refine ⟨?_, ?_, hset_same _ _ _, ?_, rfl⟩
    · exact Eq.mpr (congrArg (Ext h) eA) (hx1.trans ex)
    · exact Eq.mpr (congrArg (Ext h1) eA) ex
    · exact Eq.mpr (congrArg (fun x : Hp => x (N + 1) = some (.cells #[.slice a0 n0 c0, .slice (some ⟨bs0, 0, none⟩) n cc, .slice none 0 0, .slice none 0 0, .slice none 0 0] 39 (0, 0))) eA) (ex _ _ g5)
  clear e1 eA
  rintro h2 N2 ⟨hx2, hx2', gr, g5, hN2⟩
  refine c_region (by kernel_rfl) ?_
  refine st_q (ok_move (v := .pointer _) rfl ⟨rfl, rfl, rfl⟩) ?_
  refine st_q (ok_move (v := .int _ _) rfl ⟨rfl, rfl, rfl⟩) ?_
  refine st_q (ok_move (v := .pointer _) rfl ⟨rfl, rfl, rfl⟩) ?_
  refine st_q (ok_nilCheck_ptr rfl ⟨rfl, rfl, rfl⟩) ?_
  refine st_q (ok_fieldAddr (fld rfl) rfl ⟨rfl, rfl, rfl⟩) ?_
  refine st_q (ok_fieldAddr (fld rfl) rfl ⟨rfl, rfl, rfl⟩) ?_
  refine st_q (ok_load (ty rfl) rfl gr (by rfl) ⟨rfl, rfl, rfl⟩) ?_
  refine st_q (v := .int .i64 (n : Int)) (ok_mul rfl rfl (by omega) (by omega) ⟨by rw [eM], rfl, rfl⟩) ?_
  refine st (ok_makeSlice (sl rfl) (ty rfl) rfl rfl (by omega) (by omega) (by omega) (by omega) (l' := n) (c' := n) (by omega) (by omega) (fun hN34 => ?_))
  refine st_q (ok_nilCheck_ptr rfl ⟨rfl, rfl, rfl⟩) ?_
  refine st_q (ok_fieldAddr (fld rfl) rfl ⟨rfl, rfl, rfl⟩) ?_
  refine st_q (ok_fieldAddr (fld rfl) rfl ⟨rfl, rfl, rfl⟩) ?_
  refine st0 (ok_store (ty rfl) rfl (v := .slice _ _ _) rfl rfl (Ext.push hN34 _ _ _ gr) (Nat.le_of_ble_eq_true rfl) ?_)
  refine o_nil ?_
  refine n_then ?_
  refine c_seq ?_
  have hne : N2 ≠ N1 := fun e => by rw [← e, hN34 _ (Nat.le_refl _)] at gr; cases gr
  have e3 := Ext.push hN34 (.cells (madeCells #[.int .u64 0] (n * 1)) 181 (0, 0))
  have gr3 := e3 _ _ gr
  have g53 := e3 _ _ g5
  refine c_heap (fun h' N' => Ext h h' ∧ h' N1 = some (.cells (setA (setA #[.int .i64 0, .slice none 0 0, .slice none 0 0, .slice an n nc, .slice none 0 0, .slice none 0 0, .slice none 0 0, .slice none 0 0, .slice none 0 0, .nilFunc, .nilFunc, .nilFunc, .slice none 0 0, .slice none 0 0, .slice none 0 0, .slice none 0 0, .slice none 0 0, .slice none 0 0, .pointer none, .slice none 0 0, .int .i64 0, .slice none 0 0, .slice none 0 0, .int .i64 0, .int .i64 0, .slice none 0 0, .slice none 0 0, .slice none 0 0, .slice none 0 0, .slice none 0 0, .slice none 0 0, .slice none 0 0, .bool false, .int .i64 0, .slice none 0 0, .slice none 0 0, .slice none 0 0, .int .i64 (n : Int), .slice none 0 0, .slice none 0 0, .slice none 0 0, .slice none 0 0, .slice none 0 0, .bool false, .slice none 0 0, .slice none 0 0, .slice none 0 0, .slice none 0 0, .slice none 0 0, .slice none 0 0, .bool false, .slice none 0 0, .slice none 0 0, .slice none 0 0, .slice none 0 0, .slice none 0 0, .int .i64 0, .slice none 0 0, .int .i64 0, .slice none 0 0, .slice none 0 0, .int .i64 0, .slice none 0 0, .slice none 0 0, .slice none 0 0, .slice none 0 0, .int .i64 0, .slice none 0 0, .slice none 0 0, .slice none 0 0, .slice none 0 0, .slice none 0 0, .int .i64 0, .slice none 0 0, .int .i64 0, .slice none 0 0, .int .u8 0, .int .i64 0, .slice none 0 0, .pointer none, .bool false, .bool false, .slice none 0 0] 0 (.int .i64 ((1 : Nat) : Int))) 1 (.slice (some ⟨N2, 0, none⟩) n n)) 70 (0, 0)) ∧ h' (N + 1) = some (.cells #[.slice a0 n0 c0, .slice (some ⟨bs0, 0, none⟩) n cc, .slice none 0 0, .slice none 0 0, .slice none 0 0] 39 (0, 0)) ∧ h' N2 = some (.cells (madeCells #[.int .u64 0] (n * 1)) 181 (0, 0))) ⟨Ext.fresh (hx2.trans e3) (hnn _ hb1) _, hset_same _ _ _, (hset_ne _ _ (ne_of_ty g53 gr3 rfl)).trans g53, (hset_ne _ _ hne).trans (hset_same _ _ _)⟩ ?_
  clear gr g5 gr3 g53
  rintro h3 N3 ⟨hx3, gr, g5, grb⟩
  refine c_region (by kernel_rfl) ?_
  refine st_q (ok_move (v := .pointer _) rfl ⟨rfl, rfl, rfl⟩) ?_
  refine st_q (ok_move (v := .int _ _) rfl ⟨rfl, rfl, rfl⟩) ?_
  refine st_q (ok_move (v := .pointer _) rfl ⟨rfl, rfl, rfl⟩) ?_
  refine st_q (ok_nilCheck_ptr rfl ⟨rfl, rfl, rfl⟩) ?_
  refine st_q (ok_fieldAddr (fld rfl) rfl ⟨rfl, rfl, rfl⟩) ?_
  refine st_q (ok_fieldAddr (fld rfl) rfl ⟨rfl, rfl, rfl⟩) ?_
  refine st_q (ok_load (ty rfl) rfl gr (by rfl) ⟨rfl, rfl, rfl⟩) ?_
  refine st_q (v := .int .i64 (n : Int)) (ok_mul rfl rfl (by omega) (by omega) ⟨by rw [eM], rfl, rfl⟩) ?_
  refine st (ok_makeSlice (sl rfl) (ty rfl) rfl rfl (by omega) (by omega) (by omega) (by omega) (l' := n) (c' := n) (by omega) (by omega) (fun hN46 => ?_))
  refine st_q (ok_nilCheck_ptr rfl ⟨rfl, rfl, rfl⟩) ?_
  refine st_q (ok_fieldAddr (fld rfl) rfl ⟨rfl, rfl, rfl⟩) ?_
  refine st_q (ok_fieldAddr (fld rfl) rfl ⟨rfl, rfl, rfl⟩) ?_
  refine st0 (ok_store (ty rfl) rfl (v := .slice _ _ _) rfl rfl (Ext.push hN46 _ _ _ gr) (Nat.le_of_ble_eq_true rfl) ?_)
  refine o_nil ?_
  refine n_then ?_
  refine c_seq ?_
  have e4 := Ext.push hN46 (.cells (madeCells #[.int .u64 0] (n * 1)) 181 (0, 0))
  have gr3 := e4 _ _ gr
  have g53 := e4 _ _ g5
  have grb3 := e4 _ _ grb
  have hne3 : N3 ≠ N1 := fun e => by rw [← e, hN46 _ (Nat.le_refl _)] at gr; cases gr
  have hne4 : N2 ≠ N3 := fun e => by rw [e, hN46 _ (Nat.le_refl _)] at grb; cases grb
  have hfin : h N3 = none := by
    cases e : h N3 with
    | none => rfl
    | some o => have := hx3 _ _ e; rw [hN46 _ (Nat.le_refl _)] at this; cases this
  have hfin2 : h N2 = none := by
    cases e : h N2 with
    | none => rfl
    | some o => have := hx2 _ _ e; rw [hN34 _ (Nat.le_refl _)] at this; cases this
  have hU : ∀ b, (some (Obj.cells (madeCells #[.int .u64 0] (n * 1)) 181 (0, 0)) = some (.cells (Array.replicate n (.int .u64 0)) 181 (0, 0))) ∧ U64s (Array.replicate n (.int .u64 b)) := fun b => ⟨by rw [madeCells_one, Nat.mul_one], fun j hj => ⟨b, by simp at hj; simp [hj]⟩⟩
  refine c_heap (fun h' N' => Ext h h' ∧ h' N1 = some (.cells (rA an n nc N2 N3) 70 (0, 0)) ∧ h' (N + 1) = some (.cells #[.slice a0 n0 c0, .slice (some ⟨bs0, 0, none⟩) n cc, .slice none 0 0, .slice none 0 0, .slice none 0 0] 39 (0, 0)) ∧ Us h' N2 n ∧ Us h' N3 n) ⟨Ext.fresh (hx3.trans e4) (hnn _ hb1) _, hset_same _ _ _, (hset_ne _ _ (ne_of_ty g53 gr3 rfl)).trans g53, ⟨_, (hset_ne _ _ hne).trans (grb3.trans (hU 0).1), (hU 0).2, by simp⟩, ⟨_, (hset_ne _ _ hne3).trans ((hset_same _ _ _).trans (hU 0).1), (hU 0).2, by simp⟩⟩ ?_
  clear gr g5 gr3 g53 grb grb3 e4
  rintro h4 N4 ⟨hx4, gr, g5, grb, gcb⟩
  refine c_region (by kernel_rfl) ?_
  refine st_q (ok_move (v := .pointer _) rfl ⟨rfl, rfl, rfl⟩) ?_
  refine st_q (ok_loadAgg (ty rfl) rfl g5 (Nat.le_of_ble_eq_true rfl) rfl ⟨rfl, rfl, rfl⟩) ?_
  refine st_q (ok_move (v := .slice _ _ _) rfl ⟨rfl, rfl, rfl⟩) ?_
  refine st (ok_call rfl ent6 (start_ok gr (hx4 _ _ hs) hsv (hx4 _ _ ho) hov hos grb gcb hne4 hn hn0) rfl ?_)
  rintro _ h5 N5 ⟨rfl, hx5, hst⟩
  refine o_nil ?_
  refine n_then ?_
  refine c_seq ?_
  refine c_region (by kernel_rfl) ?_
  refine st_q (ok_move (v := .pointer _) rfl ⟨rfl, rfl, rfl⟩) ?_
  refine st_q (ok_assign (v := .pointer _) rfl ⟨rfl, rfl, rfl⟩) ?_
  refine o_nil ?_
  refine n_then ?_
  refine c_ret ?_
  have hn4 : ∀ b, h4 b = none → h b = none := fun b hb => by
    cases e : h b with
    | none => rfl
    | some o => rw [hx4 _ _ e] at hb; cases hb
  obtain ⟨rc, bpl, bs, bp, pl, s1, s2, s3, s4, s5, s6, s7, s8, s9, s10, s11, s12, s13, s14, s15⟩ := hst
  refine r_leave (leave_tmp rfl rfl ⟨?_, N1, rfl, hnn _ hb1, rc, bpl, bs, bp, pl, s1, s2, s3, s4, s5, s6, s7, s8, s9, s10, s11, s12, s13, hn4 _ s14, hn4 _ s15⟩)
  intro d o hd
  refine hx5 d o ?_ ?_ ?_ (hx4 _ _ hd)
  · rintro rfl; rw [hnn _ hb1] at hd; cases hd
  · rintro rfl; rw [hfin2] at hd; cases hd
  · rintro rfl; rw [hfin] at hd; cases hd
end
end Sx
end Go.Proofs.YbulkcsqkGreatDoor
