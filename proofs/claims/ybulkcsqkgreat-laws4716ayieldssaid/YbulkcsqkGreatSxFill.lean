import Derived.Test.YbulkcsqkGreatSxBack
import Derived.Test.YbulkcsqkGreatSxUnion
import Derived.Test.YbulkcsqkGreatSxSP
import Derived.Test.YbulkcsqkGreatSxPlainA
namespace Go.Proofs.YbulkcsqkGreat
namespace Sx
set_option maxRecDepth 10000
set_option maxHeartbeats 2000000
variable {w0 : World}
/-- A matrix of words. -/
def Mat (m : Hp) (rb n W : Nat) (F : Nat → Int) : Prop := ∃ cs, m rb = some (.cells cs 85 (0, 0)) ∧ cs.size = n * W ∧ Wd cs F
theorem Mat.ext {m m' : Hp} {rb n W : Nat} {F : Nat → Int} (hM : Mat m rb n W F) (hx : Ext m m') : Mat m' rb n W F := by
  obtain ⟨cs, h1, h2⟩ := hM
  exact ⟨cs, hx _ _ h1, h2⟩
theorem Mat.off {m : Hp} {rb b n W : Nat} {F : Nat → Int} {o : Obj} (hM : Mat m rb n W F) (hne : rb ≠ b) : Mat (hset m b o) rb n W F := by
  obtain ⟨cs, h1, h2⟩ := hM
  exact ⟨cs, (hset_ne _ _ hne).trans h1, h2⟩
theorem clear_words {cs : Array Value} {L : Nat} (hz : cs.size = L) : (lay cs 0 (List.replicate L (.int .u64 0))).size = L ∧ Wd (lay cs 0 (List.replicate L (.int .u64 0))) (fun _ => 0) := by
  have hs : (lay cs 0 (List.replicate L (.int .u64 0))).size = L := by rw [lay_size _ _ _ (by simp; omega), hz]
  refine ⟨hs, fun k hk => ?_⟩
  rw [hs] at hk
  rw [← Array.getElem?_toList]
  show (cs.toList.take 0 ++ (List.replicate L (Value.int .u64 0) ++ _))[k]? = _
  rw [List.take_zero, List.nil_append, List.getElem?_append_left (by simpa using hk)]
  simp [hk]
theorem bit_none (W i x : Nat) : bit W (fun _ => 0) i x = false := bit_zero _

section
variable {h m X : Hp} {N : Nat}
/-- What fill does not change. -/
structure FC (Z X : Hp) (an : Option Addr) (bc b3 b4 b6 bp n nc bs : Nat) (pl : Array Value) : Prop where
  ext : Ext X Z
  z3 : Z b3 = some (.cells #[.pointer (some ⟨bc, 0, none⟩)] 100 (0, 0))
  z4 : Z b4 = some (.cells (gcells an n nc bs) 69 (0, 0))
  z6 : Z b6 = some (.cells #[.slice (some ⟨bp, 0, none⟩) n n] 34 (0, 0))
  zp : Z bp = some (.cells pl 3 (0, 0))
theorem FC.mono {Z Z' X : Hp} {an : Option Addr} {bc b3 b4 b6 bp n nc bs : Nat} {pl : Array Value} (hf : FC Z X an bc b3 b4 b6 bp n nc bs pl) (hx : Ext Z Z') : FC Z' X an bc b3 b4 b6 bp n nc bs pl :=
  ⟨hf.ext.trans hx, hx _ _ hf.z3, hx _ _ hf.z4, hx _ _ hf.z6, hx _ _ hf.zp⟩
theorem Rows.move {m m' : Hp} {bs n : Nat} {V : Nat → Value} {S : Nat → List Nat} (hr : Rows m bs n V S) (hk : ∀ x cs t fz, m x = some (.cells cs t fz) → Nat.beq 85 t = false → m' x = some (.cells cs t fz)) : Rows m' bs n V S := by
  obtain ⟨vs, h1, h2⟩ := hr.top
  refine ⟨⟨vs, hk _ _ _ _ h1 rfl, h2⟩, fun i hi => ?_, hr.inj⟩
  rcases hr.own i hi with h3 | ⟨b, n', c', cs, h3, h4, h5⟩
  · exact .inl h3
  · exact .inr ⟨b, n', c', cs, h3, hk _ _ _ _ h4 rfl, h5⟩
/-- The fan union's cells. -/
abbrev ucells (an : Option Addr) (n nc bs : Nat) (ah : Bool) (f6 f7 f8 f9 : Value) : Array Value := #[.slice an n nc, .slice (some ⟨bs, 0, none⟩) n n, .slice none 0 0, .slice none 0 0, .slice none 0 0, .bool ah, f6, f7, f8, f9]

theorem Own.noX {m X h : Hp} {e : TypeId} {sz c : Nat} {v : Value} {xs : List Value} {o : Obj} (hS : Sep m X h) (ho : Own m e sz v xs) (hc : X c = some o) : blk v ≠ some c := by
  intro e
  obtain ⟨cs', h1⟩ := ho.at e
  have := hS.notm hc
  rw [h1] at this; cases this
theorem own_zero {m : Hp} {e : TypeId} {sz n c : Nat} {a : Option Addr} {xs : List Value} (ho : Own m e sz (.slice a n c) xs) : Own m e sz (.slice a 0 c) [] := by
  rcases ho with ⟨h1, _⟩ | ⟨b, n', c', cs, h1, h2, h3, h4, _⟩
  · cases h1; exact .inl ⟨rfl, rfl⟩
  · cases h1; exact .inr ⟨b, 0, c, cs, rfl, h2, h3, Nat.zero_le _, by simp, by simp⟩
theorem later {n i j y : Nat} {S : Nat → List Nat} {ord : List Nat} (hT : Tp n S ord) (hnd : ord.Nodup) (hall : ∀ i, i < n → i ∈ ord) (hl : ∀ i, i < n → ∀ k, k ∈ S i → k < n) (hj : j < ord.length) (hji : ord[j] = i) (hi : i < n) (hy : y ∈ S i) : y ∈ ord.drop (j + 1) ∧ y ≠ i := by
  have h1 := idx_lt hT hnd hall hl hi hy
  have h2 : ord.idxOf i = j := by rw [← hji]; exact hnd.idxOf_getElem j hj
  have h3 := List.idxOf_lt_length_iff.2 (hall y (hl i hi y hy))
  refine ⟨?_, fun e => by rw [e] at h1; omega⟩
  rw [List.mem_drop_iff_getElem]
  refine ⟨ord.idxOf y - (j + 1), by omega, ?_⟩
  have h4 : j + 1 + (ord.idxOf y - (j + 1)) = ord.idxOf y := by omega
  simp only [h4]
  exact List.getElem_idxOf h3
theorem earlier {n c q y : Nat} {S : Nat → List Nat} {ord : List Nat} (hT : Tp n S ord) (hnd : ord.Nodup) (hq : q < ord.length) (hqc : ord[q] = c) (hyn : y < n) (hy : c ∈ S y) : y ∈ ord.take q ∧ y ≠ c := by
  have he : ord = ord.take q ++ c :: ord.drop (q + 1) := by
    rw [← hqc, ← List.drop_eq_getElem_cons hq, List.take_append_drop]
  have h1 := hT _ _ _ he y hyn hy
  refine ⟨h1, fun e => ?_⟩
  rw [he, List.nodup_append] at hnd
  exact hnd.2.2 y h1 c (by simp) e

theorem fill_ok {an : Option Addr} {bc bs bo co n nc W rb1 rb2 : Nat} {V : Nat → Value} {S : Nat → List Nat} {oc : Array Value} {fo : Nat × Nat} {ord : List Nat} {F1 F2 : Nat → Int} (hS : Sep m X h)
    (xc : X bc = some (.cells #[.int .i64 (W : Int), .slice (some ⟨rb1, 0, none⟩) (n * W) (n * W), .slice (some ⟨rb2, 0, none⟩) (n * W) (n * W)] 78 (0, 0))) (hR : Rows X bs n V S) (hSl : ∀ i, i < n → ∀ k, k ∈ S i → k < n) (hSn : ∀ i, i < n → (S i).Nodup)
    (xo : X bo = some (.cells oc 3 fo)) (hoc : oc.toList.take (ord.length * 1) = ints ord) (hol : ord.length = n) (hnd : ord.Nodup) (hall : ∀ i, i < n → i ∈ ord) (hlt : ∀ i, i ∈ ord → i < n) (hT : Tp n S ord)
    (hn : n ≤ 100) (h0 : 0 < W) (hW : W ≤ 10) (hnW : n ≤ 64 * W) (m1 : Mat m rb1 n W F1) (m2 : Mat m rb2 n W F2) (hne : rb1 ≠ rb2) :
    CallsX Ybaz.prog w0 12 #[.pointer (some ⟨bc, 0, none⟩), .agg (gcells an n nc bs), .slice (some ⟨bo, 0, none⟩) n co] h N (fun u h' _ => u = .tuple #[] ∧ ∃ m' F1 F2, Sep m' X h' ∧ Mat m' rb1 n W F1 ∧ Mat m' rb2 n W F2 ∧ (∀ i x, i < n → x < n → (bit W F1 i x = true ↔ RC S i x)) ∧ ∀ j x, j < n → x < n → (bit W F2 j x = true ↔ RC S x j)) := by
  refine calls_of Ybaz.func12 rfl Ybaz.ntmps12 (Nat.le_of_ble_eq_true rfl) ?_
  have hbig : n * W ≤ 100 * 10 := Nat.mul_le_mul hn hW
  have hrow : ∀ k (hk : k < n), oc[k]? = some (.int .i64 ((ord[k]'(by omega) : Nat) : Int)) := fun k hk => row_of hoc k (by omega)
  refine c_seq ?_
  refine c_region (by kernel_rfl) ?_
  refine st (ok_box (v := .pointer _) rfl rfl (fun hN3 => ?_))
  refine st (ok_box (v := .agg _) rfl rfl (fun hN4 => ?_))
  refine o_nil ?_
  refine n_then ?_
  have hS1 := (hS.newX (hN3 _ (Nat.le_refl _)) (.cells #[.pointer (some ⟨bc, 0, none⟩)] 100 (0, 0))).newX (hN4 _ (Nat.le_refl _)) (.cells (gcells an n nc bs) 69 (0, 0))
  have hX1 : Ext X (hset (hset X N (.cells #[.pointer (some ⟨bc, 0, none⟩)] 100 (0, 0))) (N + 1) (.cells (gcells an n nc bs) 69 (0, 0))) := ((Ext.refl X).fresh (hS.oth.back (hN3 _ (Nat.le_refl _))) _).fresh (hS.oth.back (hN3 _ (by omega))) _
  have z3 : (hset (hset X N (.cells #[.pointer (some ⟨bc, 0, none⟩)] 100 (0, 0))) (N + 1) (.cells (gcells an n nc bs) 69 (0, 0))) N = some (.cells #[.pointer (some ⟨bc, 0, none⟩)] 100 (0, 0)) := (hset_ne _ _ (by omega)).trans (hset_same _ _ _)
  have z4 := hset_same (hset X N (.cells #[.pointer (some ⟨bc, 0, none⟩)] 100 (0, 0))) (N + 1) (.cells (gcells an n nc bs) 69 (0, 0))
  refine c_heap (fun h1 _ => ∃ Z, Sep m Z h1 ∧ Ext X Z ∧ Z N = some (.cells #[.pointer (some ⟨bc, 0, none⟩)] 100 (0, 0)) ∧ Z (N + 1) = some (.cells (gcells an n nc bs) 69 (0, 0))) ⟨_, hS1, hX1, z3, z4⟩ ?_
  clear hS hS1 hX1 z3 z4
  rintro h1 N1 ⟨Z, hS, hX, z3, z4⟩
  obtain ⟨cs1, c1, c2, _⟩ := m1
  obtain ⟨cs2, d1, d2, _⟩ := m2
  refine c_seq ?_
  refine c_region (by kernel_rfl) ?_
  refine st_q (ok_load (ty rfl) rfl (hS.oth _ _ z3) rfl ⟨rfl, rfl, rfl⟩) ?_
  refine st_q (ok_nilCheck_ptr rfl ⟨rfl, rfl, rfl⟩) ?_
  refine st_q (ok_fieldAddr (fld rfl) rfl ⟨rfl, rfl, rfl⟩) ?_
  refine st_q (ok_load (ty rfl) rfl (hS.oth _ _ (hX _ _ xc)) rfl ⟨rfl, rfl, rfl⟩) ?_
  refine st0 (ok_clear1 (sl rfl) (ty rfl) rfl rfl (hS.own _ _ c1) (by omega) ?_)
  refine o_nil ?_
  refine n_then ?_
  have hS1 := hS.set c1 (.cells (lay cs1 0 (List.replicate (n * W) (.int .u64 0))) 85 (0, 0))
  have d1' : (hset m rb1 (.cells (lay cs1 0 (List.replicate (n * W) (.int .u64 0))) 85 (0, 0))) rb2 = some (.cells cs2 85 (0, 0)) := (hset_ne _ _ hne.symm).trans d1
  refine c_seq ?_
  refine c_region (by kernel_rfl) ?_
  refine st_q (ok_load (ty rfl) rfl (hS1.oth _ _ z3) rfl ⟨rfl, rfl, rfl⟩) ?_
  refine st_q (ok_nilCheck_ptr rfl ⟨rfl, rfl, rfl⟩) ?_
  refine st_q (ok_fieldAddr (fld rfl) rfl ⟨rfl, rfl, rfl⟩) ?_
  refine st_q (ok_load (ty rfl) rfl (hS1.oth _ _ (hX _ _ xc)) rfl ⟨rfl, rfl, rfl⟩) ?_
  refine st0 (ok_clear1 (sl rfl) (ty rfl) rfl rfl (hS1.own _ _ d1') (by omega) ?_)
  refine o_nil ?_
  refine n_then ?_
  have hS2 := hS1.set d1' (.cells (lay cs2 0 (List.replicate (n * W) (.int .u64 0))) 85 (0, 0))
  have w1 := clear_words c2
  have w2 := clear_words d2
  refine c_heap (fun h1 _ => ∃ m, Sep m Z h1 ∧ Mat m rb1 n W (fun _ => 0) ∧ Mat m rb2 n W (fun _ => 0)) ⟨_, hS2, ⟨_, (hset_ne _ _ hne).trans (hset_same _ _ _), w1.1, w1.2⟩, ⟨_, hset_same _ _ _, w2.1, w2.2⟩⟩ ?_
  clear hS hS1 hS2 c1 c2 d1 d2 d1' w1 w2
  rintro h1 N1 ⟨m, hS, m1, m2⟩
  refine c_seq ?_
  refine c_region (by kernel_rfl) ?_
  refine st_q (ok_fieldAddr (fld rfl) rfl ⟨rfl, rfl, rfl⟩) ?_
  refine st_q (ok_load (ty rfl) rfl (hS.oth _ _ z4) rfl ⟨rfl, rfl, rfl⟩) ?_
  refine st_q (ok_len (sl rfl) rfl ⟨rfl, rfl, rfl⟩) ?_
  refine st (ok_makeSlice (sl rfl) (ty rfl) rfl rfl (by omega) (by omega) (by omega) (by omega) (l' := n) (c' := n) (by omega) (by omega) (fun hN29 => ?_))
  refine st (ok_alloc (ty rfl) rfl (fun hN6 => ?_))
  refine st0 (ok_store (ty rfl) rfl (v := .slice _ _ _) rfl rfl (hset_same _ _ _) (Nat.le_of_ble_eq_true rfl) ?_)
  refine o_nil ?_
  refine n_then ?_
  have hmp : m N1 = none := hS.own.back (hN29 _ (Nat.le_refl _))
  have hS1 := ((hS.push hN29 (.cells (madeCells #[.int .i64 0] (n * 1)) 3 (0, 0))).newX (hN6 _ (Nat.le_refl _)) (.cells #[.slice none 0 0] 34 (0, 0))).setX (hset_same _ _ _) (.cells #[.slice (some ⟨N1, 0, none⟩) n n] 34 (0, 0))
  rw [hset_hset Z] at hS1
  have hZ1 : Ext Z (hset Z (N1 + 1) (.cells #[.slice (some ⟨N1, 0, none⟩) n n] 34 (0, 0))) := (Ext.refl Z).fresh (hS.oth.back (hN29 _ (by omega))) _
  have hm1 := (Ext.refl m).fresh hmp (.cells (madeCells #[.int .i64 0] (n * 1)) 3 (0, 0))
  refine c_heap (fun h1 _ => ∃ m Z, Sep m Z h1 ∧ Ext X Z ∧ Z N = some (.cells #[.pointer (some ⟨bc, 0, none⟩)] 100 (0, 0)) ∧ Z (N + 1) = some (.cells (gcells an n nc bs) 69 (0, 0)) ∧ Z (N1 + 1) = some (.cells #[.slice (some ⟨N1, 0, none⟩) n n] 34 (0, 0)) ∧ Mat m rb1 n W (fun _ => 0) ∧ Mat m rb2 n W (fun _ => 0) ∧ m N1 = some (.cells (madeCells #[.int .i64 0] (n * 1)) 3 (0, 0))) ⟨_, _, hS1, hX.trans hZ1, hZ1 _ _ z3, hZ1 _ _ z4, hset_same _ _ _, m1.ext hm1, m2.ext hm1, hset_same _ _ _⟩ ?_
  clear hS hS1 hZ1 hm1 m1 m2 hX z3 z4 hmp
  rintro h2 N2 ⟨m, Z, hS, hX, z3, z4, z6, m1, m2, gp⟩
  refine c_seq ?_
  refine c_seq ?_
  refine c_region (by kernel_rfl) ?_
  refine st_q (ok_move (v := .slice _ _ _) rfl ⟨rfl, rfl, rfl⟩) ?_
  refine st_q (ok_len (sl rfl) rfl ⟨rfl, rfl, rfl⟩) ?_
  refine st_q (ok_move (v := .int _ _) rfl ⟨rfl, rfl, rfl⟩) ?_
  refine o_nil ?_
  refine n_then ?_
  refine c_block ?_
  refine c_loop (fun k E h' _ D => D = [] ∧ k ≤ n ∧ (∃ m pl, ∃ pf : Nat → Nat, Sep m Z h' ∧ m N1 = some (.cells pl 3 (0, 0)) ∧ pl.size = n ∧ (∀ i, i < n → pl[i]? = some (.int .i64 (pf i : Int))) ∧ Mat m rb1 n W (fun _ => 0) ∧ Mat m rb2 n W (fun _ => 0)) ∧ Fr E [(2, .slice (some ⟨bo, 0, none⟩) n co), (3, .pointer (some ⟨N, 0, none⟩)), (4, .pointer (some ⟨N + 1, 0, none⟩)), (6, .pointer (some ⟨N1 + 1, 0, none⟩)), (30, .slice (some ⟨bo, 0, none⟩) n co), (31, .int .i64 (n : Int)), (32, .int .i64 ((n - k : Nat) : Int))]) (k := n) ⟨rfl, Nat.le_refl _, ⟨m, _, fun _ => 0, hS, gp, made_size, made_get, m1, m2⟩, rfl, rfl, rfl, rfl, rfl, rfl, by rw [Nat.sub_self]; rfl, trivial⟩ ?_
  clear hS gp m1 m2
  rintro k E h3 N3 D ⟨rfl, hk, ⟨m, pl, pf, hS, gp, hpz, hpv, m1, m2⟩, hE⟩
  obtain ⟨E0, rfl⟩ := hE.ex
  refine c_seq ?_
  refine c_region (by kernel_rfl) ?_
  refine st_q (ok_lss rfl rfl ⟨rfl, rfl, rfl⟩) ?_
  refine o_nil ?_
  refine n_then ?_
  refine c_seq ?_
  refine c_cond_prop rfl (fun hc => ?_) (fun hc => ?_)
  · skip
    generalize hq : n - k = q at *
    have hqn : q < n := by omega
    have hoq := hrow q hqn
    have hin := hlt (ord[q]'(by omega)) (List.getElem_mem _)
    generalize ord[q]'(by omega) = i at *
    refine c_skip ?_
    refine n_then ?_
    refine c_seq ?_
    refine c_block ?_
    refine c_seq ?_
    refine c_region (by kernel_rfl) ?_
    refine st_q (ok_move (v := .int _ _) rfl ⟨rfl, rfl, rfl⟩) ?_
    refine st_q (ok_indexAddr (sl rfl) (ty rfl) rfl rfl (by omega) (by omega) (off := q) (by omega) ⟨rfl, rfl, rfl⟩) ?_
    refine st_q (ok_load (ty rfl) rfl (hS.oth _ _ (hX _ _ xo)) hoq ⟨rfl, rfl, rfl⟩) ?_
    refine st_q (ok_assign (v := .int _ _) rfl ⟨rfl, rfl, rfl⟩) ?_
    refine st_q (ok_assign (v := .int _ _) rfl ⟨rfl, rfl, rfl⟩) ?_
    refine o_nil ?_
    refine n_then ?_
    refine c_region (by kernel_rfl) ?_
    refine st_q (ok_load (ty rfl) rfl (hS.oth _ _ z6) rfl ⟨rfl, rfl, rfl⟩) ?_
    refine st_q (ok_move (v := .int _ _) rfl ⟨rfl, rfl, rfl⟩) ?_
    refine st_q (ok_move (v := .int _ _) rfl ⟨rfl, rfl, rfl⟩) ?_
    refine st_q (ok_indexAddr (sl rfl) (ty rfl) rfl rfl (by omega) (by omega) (off := i) (by omega) ⟨rfl, rfl, rfl⟩) ?_
    refine st0 (ok_store (ty rfl) rfl (v := .int _ _) rfl rfl (hS.own _ _ gp) (by omega) ?_)
    refine o_nil ?_
    refine n_block (n_then ?_)
    refine c_region (by kernel_rfl) ?_
    refine st_q (ok_add rfl rfl (by omega) (by omega) ⟨rfl, rfl, rfl⟩) ?_
    refine st_q (ok_move (v := .int _ _) rfl ⟨rfl, rfl, rfl⟩) ?_
    refine o_nil ?_
    refine n_then ⟨k - 1, by omega, rfl, by omega, ⟨_, _, fun x => if x = i then q else pf x, hS.set gp _, hset_same _ _ _, by rw [setA_size]; exact hpz, fun x hx => ?_, m1.off ?_, m2.off ?_⟩, rfl, rfl, rfl, rfl, rfl, rfl, ?_, trivial⟩
    · by_cases e : x = i
      · subst e; rw [setA_same _ _ (by omega)]; simp
      · rw [setA_ne _ _ (fun e2 => e e2.symm), hpv x hx]; simp [e]
    · obtain ⟨c, c1, _⟩ := m1; exact ne_of_ty c1 gp rfl
    · obtain ⟨c, c1, _⟩ := m2; exact ne_of_ty c1 gp rfl
    · show Value.int .i64 ((q : Int) + 1) = _
      congr 1; omega
  · skip
    refine c_exit ?_
    refine x_then (x_then (x_block (n_then ?_)))
    have nm1 : rb1 ≠ N1 := by obtain ⟨c, c1, _⟩ := m1; exact ne_of_ty c1 gp rfl
    have nm2 : rb2 ≠ N1 := by obtain ⟨c, c1, _⟩ := m2; exact ne_of_ty c1 gp rfl
    have hS1 := hS.give gp
    have hZ1 : Ext Z (hset Z N1 (.cells pl 3 (0, 0))) := (Ext.refl Z).fresh (hS.noX gp) _
    have hf : FC (hset Z N1 (.cells pl 3 (0, 0))) X an bc N (N + 1) (N1 + 1) N1 n nc bs pl := ⟨hX.trans hZ1, hZ1 _ _ z3, hZ1 _ _ z4, hZ1 _ _ z6, hset_same _ _ _⟩
    have m1 : Mat (del m N1) rb1 n W (fun _ => 0) := by obtain ⟨c, c1, c2⟩ := m1; exact ⟨c, (del_ne _ nm1).trans c1, c2⟩
    have m2 : Mat (del m N1) rb2 n W (fun _ => 0) := by obtain ⟨c, c1, c2⟩ := m2; exact ⟨c, (del_ne _ nm2).trans c1, c2⟩
    generalize hset Z N1 (.cells pl 3 (0, 0)) = Z at *
    generalize del m N1 = m at *
    generalize N1 + 1 = b6 at *
    generalize N + 1 = b4 at *
    clear hS gp hZ1 z3 z4 z6 hX nm1 nm2
    refine c_seq ?_
    refine c_region (by kernel_rfl) ?_
    refine st_q (ok_loadAgg (ty rfl) rfl (hS1.oth _ _ hf.z4) (Nat.le_of_ble_eq_true rfl) rfl ⟨rfl, rfl, rfl⟩) ?_
    refine st (ok_call rfl ent25 (pred_ok (hR.ext (hf.ext.trans hS1.oth)) hSn hSl hn) rfl ?_)
    rintro _ h4 N4 ⟨mp, bq, V', rfl, hSp, hRp⟩
    refine st_q (ok_assign (v := .slice _ _ _) rfl ⟨rfl, rfl, rfl⟩) ?_
    refine o_nil ?_
    refine n_then ?_
    obtain ⟨hS2, hx2, hx3⟩ := hS1.join hSp
    have hdis : ∀ c, mp c = none ∨ Z c = none := fun c => by
      rcases hSp.dis c with e | e
      · exact .inl e
      · exact .inr (hS1.oth.back e)
    refine c_seq ?_
    refine c_region (by kernel_rfl) ?_
    refine st_q (ok_makeFunc rfl rfl ⟨rfl, rfl, rfl⟩) ?_
    refine st (ok_alloc (ty rfl) rfl (fun hN10 => ?_))
    refine st0 (ok_store (ty rfl) rfl (v := .func _ _ _) rfl rfl (hset_same _ _ _) (Nat.le_of_ble_eq_true rfl) ?_); refine o_nil ?_
    refine n_then ?_
    have hS3 := (hS2.newX (hN10 _ (Nat.le_refl _)) (.cells #[.nilFunc] 102 (0, 0))).setX (hset_same _ _ _) (.cells #[.func (.func 26) #[] #[.pointer (some ⟨b6, 0, none⟩)]] 102 (0, 0))
    rw [hset_hset (uni mp Z)] at hS3
    have hx5 : Ext (uni mp Z) (hset (uni mp Z) N4 (.cells #[.func (.func 26) #[] #[.pointer (some ⟨b6, 0, none⟩)]] 102 (0, 0))) := (Ext.refl _).fresh (hS2.oth.back (hN10 _ (Nat.le_refl _))) _
    have hmp4 : mp N4 = none := hSp.own.back (hN10 _ (Nat.le_refl _))
    refine c_heap (fun h' _ => ∃ X5, Sep m X5 h' ∧ Ext Z X5 ∧ Ext mp X5 ∧ X5 N4 = some (.cells #[.func (.func 26) #[] #[.pointer (some ⟨b6, 0, none⟩)]] 102 (0, 0))) ⟨_, hS3, hx2.trans hx5, hx3.trans hx5, hset_same _ _ _⟩ ?_
    clear hS1 hS2 hS3 hx2 hx3 hx5 hSp
    rintro h5 N5 ⟨X5, hS, hZX, hmX, z10⟩
    refine c_seq ?_
    refine c_region (by kernel_rfl) ?_
    refine st (ok_alloc (ty rfl) rfl (fun hN11 => ?_))
    refine o_nil ?_
    refine n_then ?_
    have hm5 : m N5 = none := hS.own.back (hN11 _ (Nat.le_refl _))
    have hS1 := hS.push hN11 (.cells #[.slice none 0 0] 34 (0, 0))
    have hme := (Ext.refl m).fresh hm5 (.cells #[.slice none 0 0] 34 (0, 0))
    have g11 := hset_same m N5 (.cells #[.slice none 0 0] 34 (0, 0))
    have m1 := m1.ext hme
    have m2 := m2.ext hme
    refine c_heap (fun h' _ => ∃ m, Sep m X5 h' ∧ m N5 = some (.cells #[.slice none 0 0] 34 (0, 0)) ∧ Mat m rb1 n W (fun _ => 0) ∧ Mat m rb2 n W (fun _ => 0)) ⟨_, hS1, g11, m1, m2⟩ ?_
    clear hS hS1 hme m1 m2 g11 hm5
    rintro h6 N6 ⟨m, hS, g11, m1, m2⟩
    have hf5 := hf.mono hZX
    refine c_seq ?_
    refine c_region (by kernel_rfl) ?_
    refine st_q (ok_loadAgg (ty rfl) rfl (hS.oth _ _ hf5.z4) (Nat.le_of_ble_eq_true rfl) rfl ⟨rfl, rfl, rfl⟩) ?_
    refine st_q (ok_load (ty rfl) rfl (hS.oth _ _ hf5.z3) rfl ⟨rfl, rfl, rfl⟩) ?_
    refine st_q (ok_makeFunc rfl rfl ⟨rfl, rfl, rfl⟩) ?_
    refine st_q (ok_load (ty rfl) rfl (hS.oth _ _ z10) rfl ⟨rfl, rfl, rfl⟩) ?_
    refine st (ok_call rfl ent28 (newFanUnion_ok) rfl ?_)
    rintro _ h7 N7 ⟨hx7, b1, b2, rfl⟩
    refine st (ok_alloc (ty rfl) rfl (fun hN12 => ?_))
    refine st0 (ok_storeL (ty rfl) rfl (v := .agg _) rfl rfl rfl rfl (hset_same _ _ _) (Nat.le_of_ble_eq_true rfl) ?_)
    refine o_nil ?_
    refine n_then ?_
    have hS1 := hS.ext hx7
    have xN7 : X5 N7 = none := hS1.oth.back (hN12 _ (Nat.le_refl _))
    refine c_heap (fun h' _ => ∃ X6, Sep m X6 h' ∧ Ext X5 X6 ∧ X6 N7 = some (.cells (ucells an n nc bs true (.func (.func 15) #[.pointer (some ⟨bc, 0, none⟩)] #[]) (.func (.func 26) #[] #[.pointer (some ⟨b6, 0, none⟩)]) (.slice (some ⟨b1, 0, none⟩) 0 0) (.slice (some ⟨b2, 0, none⟩) 0 0)) 105 (0, 0))) ⟨_, (hS1.newX (hN12 _ (Nat.le_refl _)) _).setX (hset_same _ _ _) _, ((Ext.refl _).fresh xN7 _).fresh xN7 _, hset_same _ _ _⟩ ?_
    clear hS hS1 xN7 hx7
    rintro h8 N8 ⟨X6, hS, hX6, z12⟩
    refine c_seq ?_
    refine c_seq ?_
    refine c_region (by kernel_rfl) ?_
    refine st_q (ok_move (v := .slice _ _ _) rfl ⟨rfl, rfl, rfl⟩) ?_
    refine st (ok_call rfl ent29 (backward_ok) rfl ?_)
    rintro _ h9 N9 ⟨rfl, rfl, rfl, hfb⟩
    refine o_nil ?_
    refine n_then ?_
    have xN8 : X6 N8 = none := hS.oth.back (hfb _ (Nat.le_refl _))
    refine c_heap (fun h' _ => ∃ X7, Sep m X7 h' ∧ Ext X6 X7 ∧ X7 N8 = some (.cells #[.slice (some ⟨bo, 0, none⟩) n co] 34 (0, 0))) ⟨_, hS.newX (hfb _ (Nat.le_refl _)) _, (Ext.refl _).fresh xN8 _, hset_same _ _ _⟩ ?_
    clear hS xN8 hfb
    rintro h10 N10 ⟨X7, hS, hX7, zbb⟩
    have hZ7 := hZX.trans (hX6.trans hX7)
    have hm7 := hmX.trans (hX6.trans hX7)
    have hf7 := hf.mono hZ7
    have z10 := (hX6.trans hX7) _ _ z10
    have z12 := hX7 _ _ z12
    clear hZX hmX hX6 hX7 hf5
    have hgd : ∀ j (hj : j < n), ord.getD j 0 = ord[j]'(by omega) := fun j hj => by rw [List.getD_eq_getElem?_getD, List.getElem?_eq_getElem (by omega)]; rfl
    have hofr : ∀ (Y' : Hp), Ext X7 Y' → ∀ (h' : Hp) (N' j : Nat), Ext Y' h' → j < n → CallsX Ybaz.prog w0 15 #[.pointer (some ⟨bc, 0, none⟩), .int .i64 (j : Int)] h' N' (fun u h2 N2 => u = .slice (some ⟨rb1, j * W, none⟩) W (n * W - j * W) ∧ h2 = h' ∧ N2 = N') := fun Y' hy h' N' j hx hj =>
      row_ok ((hf7.ext.trans (hy.trans hx)) _ _ xc) rfl rfl (by rw [Nat.succ_mul]; exact row_in hj) h0 (by omega)
    have hofc : ∀ (Y' : Hp), Ext X Y' → ∀ (h' : Hp) (N' j : Nat), Ext Y' h' → j < n → CallsX Ybaz.prog w0 14 #[.pointer (some ⟨bc, 0, none⟩), .int .i64 (j : Int)] h' N' (fun u h2 N2 => u = .slice (some ⟨rb2, j * W, none⟩) W (n * W - j * W) ∧ h2 = h' ∧ N2 = N') := fun Y' hy h' N' j hx hj =>
      col_ok ((hy.trans hx) _ _ xc) rfl rfl (by rw [Nat.succ_mul]; exact row_in hj) h0 (by omega)
    obtain ⟨vt, t1, t2, t3⟩ := hR.top
    refine c_block ?_
    refine c_cut (fun E h' _ D => Fr E [(2, .slice (some ⟨bo, 0, none⟩) n co), (3, .pointer (some ⟨N, 0, none⟩)), (4, .pointer (some ⟨b4, 0, none⟩)), (9, .slice (some ⟨bq, 0, none⟩) n n), (10, .pointer (some ⟨N4, 0, none⟩))] ∧ D = [mark N10] ∧ ∃ m F1, Sep m X7 h' ∧ m N10 = some (.deferred (some [])) ∧ Mat m rb1 n W F1 ∧ Mat m rb2 n W (fun _ => 0) ∧ ∀ i x, i < n → x < n → (bit W F1 i x = true ↔ RC S i x)) ?_ ?_
    · skip
      refine c_back (fun j => ord.getD j 0) rfl rfl zbb (hf7.ext _ _ xo) (fun j hj => by rw [hrow j hj, hgd j hj]) (by omega) hS
        (fun j m => ∃ F1 ai ni ci xs, Mat m rb1 n W F1 ∧ Mat m rb2 n W (fun _ => 0) ∧ m N5 = some (.cells #[.slice ai ni ci] 34 (0, 0)) ∧ Own m 3 1 (.slice ai ni ci) (ints xs) ∧ (∀ i, i ∈ ord.drop j → ∀ x, x < n → (bit W F1 i x = true ↔ RC S i x)) ∧ ∀ i, i < n → i ∉ ord.drop j → ∀ x, x < n → bit W F1 i x = false) 14 ?_ ?_ ?_ ?_
      · intro hm
        have hXm := (Ext.refl m).fresh hm (.deferred (some []))
        exact ⟨_, none, 0, 0, [], m1.ext hXm, m2.ext hXm, hXm _ _ g11, .inl ⟨rfl, rfl⟩, (fun i hi => by rw [List.drop_of_length_le (by omega)] at hi; cases hi), fun i _ _ x _ => bit_none W i x⟩
      · intro j h' N' r Q' hQ
        refine c_region (by kernel_rfl) ?_
        refine st_q (ok_assign (v := .int _ _) rfl ⟨rfl, rfl, rfl⟩) ?_
        refine o_nil ?_
        exact hQ
      · clear hS m1 m2 g11
        rintro j m h' N' o r hj ⟨F1, ai, ni, ci, xs, m1, m2, g11, hOx, hdn, hzr⟩ hd hS hXo
        have hgj := hgd j hj
        have hin := hlt (ord[j]'(by omega)) (List.getElem_mem _)
        have hdrop : ord.drop j = ord[j]'(by omega) :: ord.drop (j + 1) := List.drop_eq_getElem_cons (by omega)
        have hlat : ∀ y, y ∈ S (ord[j]'(by omega)) → y ∈ ord.drop (j + 1) ∧ y ≠ ord[j]'(by omega) := fun y hy => later hT hnd hall hSl (by omega) rfl hin hy
        have hinot : ord[j]'(by omega) ∉ ord.drop (j + 1) := by
          have := List.Nodup.sublist (List.drop_sublist j ord) hnd
          rw [hdrop, List.nodup_cons] at this
          exact this.1
        rw [hgj]
        generalize ord[j]'(by omega) = i at *
        have hfo := hf7.mono hXo
        have z10' := hXo _ _ z10
        have z12' := hXo _ _ z12
        have hXX := hf7.ext.trans hXo
        refine c_block ?_
        refine c_seq ?_
        refine c_region (by kernel_rfl) ?_
        refine st_q (ok_load (ty rfl) rfl (hS.oth _ _ hfo.z3) rfl ⟨rfl, rfl, rfl⟩) ?_
        refine st_q (ok_move (v := .int _ _) rfl ⟨rfl, rfl, rfl⟩) ?_
        refine st (ok_call rfl ent15 (hofr _ hXo _ _ i hS.oth hin) rfl ?_)
        rintro _ h2 N2 ⟨rfl, rfl, rfl⟩
        refine st_q (ok_move (v := .int _ _) rfl ⟨rfl, rfl, rfl⟩) ?_
        refine st (ok_call rfl ent30 (fuAdd_ok (hS.oth _ _ z12')) rfl ?_)
        rintro _ h3 N3 ⟨rfl, hx3⟩
        refine o_nil ?_
        refine n_then ?_
        have hS := hS.ext hx3
        refine c_seq ?_
        have hO0 := own_zero hOx
        obtain ⟨aS, cs5, hVi, hcs5, hrowi⟩ := (hR.own i hin).row
        have hti := t3 i hin
        rw [hVi] at hti
        have hSl5 : (S i).length ≤ n := nd_sub (hSn i hin) (hSl i hin)
        refine c_cut (fun E h' _ D => D = [] ∧ Fr E [(3, .pointer (some ⟨N, 0, none⟩)), (10, .pointer (some ⟨N4, 0, none⟩)), (11, .pointer (some ⟨N5, 0, none⟩)), (14, .int .i64 (i : Int))] ∧ ∃ m ai ni ci, Sep m (hset X7 (N10 + 1) o) h' ∧ m N10 = some (.deferred (some [])) ∧ Mat m rb1 n W F1 ∧ Mat m rb2 n W (fun _ => 0) ∧ m N5 = some (.cells #[.slice ai ni ci] 34 (0, 0)) ∧ Own m 3 1 (.slice ai ni ci) (ints (S i))) ?_ ?_
        · rcases Nat.eq_zero_or_pos (S i).length with hz | hpos
          · have hSe : S i = [] := List.length_eq_zero_iff.1 hz
            rw [hz] at hti
            have hcc : 0 ≤ ci := Nat.zero_le _
            refine c_draw mixed [0, 0, 0, 0, 0, 0, 0, 2, 2] 9 rfl [((0, 1), [((1, 2), [((2, 2), [((3, 1), [((4, 2), [((5, 2), [((6, 1), [((7, 0), [((8, 0), ())])])])])])])])])] (by kernel_rfl) (by kernel_rfl) ?_
            refine w_r rfl (fun _ _ hExt => ok_load (ty rfl) rfl (hExt _ _ (hS.own _ _ g11)) rfl ⟨rfl, rfl, rfl⟩) ?_
            refine w_p rfl (fun _ _ => ok_slice_hi (sl rfl) (ty rfl) rfl rfl (by omega) (by omega) ⟨rfl, rfl, rfl⟩) ?_
            refine w_p rfl (fun _ _ => ok_fieldAddr (fld rfl) rfl ⟨rfl, rfl, rfl⟩) ?_
            refine w_r rfl (fun _ _ hExt => ok_load (ty rfl) rfl (hExt _ _ (hS.oth _ _ hfo.z4)) rfl ⟨rfl, rfl, rfl⟩) ?_
            refine w_p rfl (fun _ _ => ok_move (v := .int _ _) rfl ⟨rfl, rfl, rfl⟩) ?_
            refine w_p rfl (fun _ _ => ok_indexAddr (sl rfl) (ty rfl) rfl rfl (by omega) (by omega) (off := i) (by omega) ⟨rfl, rfl, rfl⟩) ?_
            refine w_r rfl (fun _ _ hExt => ok_load (ty rfl) rfl (hExt _ _ (hS.oth _ _ (hXX _ _ t1))) hti ⟨rfl, rfl, rfl⟩) ?_
            refine w_e rfl (ok_append_none rfl (sl rfl) (ty rfl) rfl rfl hcc ⟨trivial, ?_⟩)
            refine w_e0 rfl (ok_store (ty rfl) rfl (v := .slice _ _ _) rfl rfl (hS.own _ _ g11) (Nat.le_of_ble_eq_true rfl) ⟨trivial, ?_⟩)
            refine w_nil ?_
            refine n_then ⟨rfl, ⟨rfl, rfl, rfl, rfl, trivial⟩, _, ai, 0, ci, hS.set g11 _, (hset_ne _ _ (ne_of_obj hd g11 (by intro e; cases e))).trans hd, m1.off ?_, m2.off ?_, hset_same _ _ _, ?_⟩
            · obtain ⟨c, c1, _⟩ := m1; exact ne_of_ty c1 g11 rfl
            · obtain ⟨c, c1, _⟩ := m2; exact ne_of_ty c1 g11 rfl
            · rw [hSe]; exact hO0.off (hO0.noty g11 rfl) _
          · obtain ⟨bI, cI, rfl, gI, _⟩ := hrowi 0 _ (List.getElem?_eq_getElem hpos)
            rcases hR.own i hin with ⟨h5, _⟩ | ⟨bI', n5, c5, cs6, h5, h6, h7, h8, h9, h10'⟩
            · rw [hVi] at h5; cases h5
            rw [hVi] at h5; cases h5
            have hex : (cs6.extract 0 (0 + (S i).length * 1)).toList = ints (S i) := by
              rw [← h10']; simp
            have hne11 : ∀ c, blk (.slice ai 0 ci) = some c → c ≠ N5 := fun c hc e => hO0.noty g11 rfl (by rw [← e]; exact hc)
            refine c_draw mixed [0, 0, 0, 0, 0, 0, 0, 2, 2] 9 rfl [((0, 1), [((1, 2), [((2, 2), [((3, 1), [((4, 2), [((5, 2), [((6, 1), [((7, 0), [((8, 0), ())])])])])])])])])] (by kernel_rfl) (by kernel_rfl) ?_
            refine w_r rfl (fun _ _ hExt => ok_load (ty rfl) rfl (hExt _ _ (hS.own _ _ g11)) rfl ⟨rfl, rfl, rfl⟩) ?_
            refine w_p rfl (fun _ _ => ok_slice_hi (sl rfl) (ty rfl) rfl rfl (by omega) (by omega) ⟨rfl, rfl, rfl⟩) ?_
            refine w_p rfl (fun _ _ => ok_fieldAddr (fld rfl) rfl ⟨rfl, rfl, rfl⟩) ?_
            refine w_r rfl (fun _ _ hExt => ok_load (ty rfl) rfl (hExt _ _ (hS.oth _ _ hfo.z4)) rfl ⟨rfl, rfl, rfl⟩) ?_
            refine w_p rfl (fun _ _ => ok_move (v := .int _ _) rfl ⟨rfl, rfl, rfl⟩) ?_
            refine w_p rfl (fun _ _ => ok_indexAddr (sl rfl) (ty rfl) rfl rfl (by omega) (by omega) (off := i) (by omega) ⟨rfl, rfl, rfl⟩) ?_
            refine w_r rfl (fun _ _ hExt => ok_load (ty rfl) rfl (hExt _ _ (hS.oth _ _ (hXX _ _ t1))) hti ⟨rfl, rfl, rfl⟩) ?_
            refine w_e rfl (ok_append rfl (sl rfl) (ty rfl) rfl rfl (hO0.ext hS.own) rfl (hS.oth _ _ (hXX _ _ h6)) (by omega) (by rw [hex]; exact ints_one _) hpos (by decide) (by simp; omega) (by simp; omega) (fun b' n' c' cs' N4 hcase hcz hnc hln htk hnq => ⟨trivial, ?_⟩)); rw [hex, List.nil_append] at hln htk; obtain ⟨hS6, hO6, hk6⟩ := own_grow hS hO0 hcase hcz hnc hln htk; have g116 := hk6 _ _ g11 (hO0.noty g11 rfl)
            refine w_e0 rfl (ok_store (ty rfl) rfl (v := .slice _ _ _) rfl rfl (hS6.own _ _ g116) (Nat.le_of_ble_eq_true rfl) ⟨trivial, ?_⟩)
            refine w_nil ?_
            have hd6 := hk6 _ _ hd (hO0.nodef hd)
            refine n_then ⟨rfl, ⟨rfl, rfl, rfl, rfl, trivial⟩, _, _, _, _, hS6.set g116 _, (hset_ne _ _ (ne_of_obj hd6 g116 (by intro e; cases e))).trans hd6, Mat.off ?_ ?_, Mat.off ?_ ?_, hset_same _ _ _, ?_⟩
            · obtain ⟨c, c1, c2⟩ := m1; exact ⟨c, hk6 _ _ c1 (hO0.noty c1 rfl), c2⟩
            · obtain ⟨c, c1, _⟩ := m1; exact ne_of_ty c1 g11 rfl
            · obtain ⟨c, c1, c2⟩ := m2; exact ⟨c, hk6 _ _ c1 (hO0.noty c1 rfl), c2⟩
            · obtain ⟨c, c1, _⟩ := m2; exact ne_of_ty c1 g11 rfl
            · exact hO6.off (hO6.noty g116 rfl) _
        clear hS m1 m2 g11 hOx hO0 hd hrowi hti hVi
        rintro E h4 N4' D ⟨rfl, hE, m, ai, ni, ci, hS, hd, m1, m2, g11, hO⟩
        obtain ⟨E5, rfl⟩ := hE.ex
        refine n_then ?_
        refine c_seq ?_
        refine c_region (by kernel_rfl) ?_
        refine st_q (ok_load (ty rfl) rfl (hS.own _ _ g11) rfl ⟨rfl, rfl, rfl⟩) ?_
        refine st_q (ok_load (ty rfl) rfl (hS.oth _ _ z10') rfl ⟨rfl, rfl, rfl⟩) ?_
        refine st (ok_call rfl ent31 (sortF_ok hS hO (by omega) (hSl i hin) (hS.oth _ _ hfo.z6) (hS.oth _ _ hfo.zp) hpv (hO.noX hS hfo.z6) (hO.noX hS hfo.zp)) rfl ?_)
        rintro _ h5 N5' ⟨rfl, m5, ys, hS5, hys, hO5, hk5⟩
        refine o_nil ?_
        refine n_then ?_
        have g115 := (hk5 _ (hO.noty g11 rfl)).trans g11
        have hd5 := (hk5 _ (hO.nodef hd)).trans hd
        have m15 : Mat m5 rb1 n W F1 := by obtain ⟨c, c1, c2⟩ := m1; exact ⟨c, (hk5 _ (hO.noty c1 rfl)).trans c1, c2⟩
        have m25 : Mat m5 rb2 n W (fun _ => 0) := by obtain ⟨c, c1, c2⟩ := m2; exact ⟨c, (hk5 _ (hO.noty c1 rfl)).trans c1, c2⟩
        clear hS hO hk5 g11 hd m1 m2
        obtain ⟨ml, Xl, hSl6, hOl, hXl, hkl, hbk⟩ := own_lend hS5 hO5
        obtain ⟨cs1, c1, c2, c3⟩ := m15
        have hyl : ys.length ≤ n := by rw [hys.length_eq]; exact hSl5
        refine c_cut (fun E h' _ D => D = [] ∧ ∃ cs' F', Sep (hset ml rb1 (.cells cs' 85 (0, 0))) Xl h' ∧ cs'.size = n * W ∧ Wd cs' F' ∧ (∀ j x, j < n → j ≠ i → x < n → bit W F' j x = bit W F1 j x) ∧ UInv S i n ys (bit W F' i)) ?_ ?_
        · skip
          refine c_draw mixed [0, 0, 0, 0, 0, 0, 0, 2] 8 rfl [((0, 1), [((1, 2), [((2, 1), [((3, 2), [((4, 1), [((5, 1), [((6, 2), [((7, 0), ())])])])])])])])] (by kernel_rfl) (by kernel_rfl) ?_
          refine w_r rfl (fun _ _ hExt => ok_load (ty rfl) rfl (hExt _ _ (hS5.oth _ _ hfo.z3)) rfl ⟨rfl, rfl, rfl⟩) ?_
          refine w_p rfl (fun _ _ => ok_move (v := .int _ _) rfl ⟨rfl, rfl, rfl⟩) ?_
          refine w_r rfl (fun h' N' hExt => ok_call rfl ent15 (hofr _ hXo _ _ i (hS5.oth.trans hExt) hin) rfl (fun _ _ _ hR => hR)) ?_
          refine w_p rfl (fun _ _ => ok_move (v := .int _ _) rfl ⟨rfl, rfl, rfl⟩) ?_
          refine w_r rfl (fun _ _ hExt => ok_load (ty rfl) rfl (hExt _ _ (hS5.own _ _ g115)) rfl ⟨rfl, rfl, rfl⟩) ?_
          refine w_r rfl (fun _ _ hExt => ok_load (ty rfl) rfl (hExt _ _ (hS5.oth _ _ hfo.z3)) rfl ⟨rfl, rfl, rfl⟩) ?_
          refine w_p rfl (fun _ _ => ok_makeFunc rfl rfl ⟨rfl, rfl, rfl⟩) ?_
          refine w_e rfl (ok_call rfl ent32 (union_ok hSl6 (hkl _ _ c1 (hO5.noty c1 rfl)) c3 c2 hnW (by omega) (by omega) hin hOl (by omega) (fun y hy => ⟨hSl i hin y (hys.mem_iff.1 hy), (hlat y (hys.mem_iff.1 hy)).2⟩) ent15 (hofr _ (hXo.trans hXl)) (hzr i hin hinot) (fun y hy => hdn y (hlat y (hys.mem_iff.1 hy)).1)) rfl ?_)
          rintro _ h6 N6' ⟨rfl, hU⟩
          refine ⟨trivial, ?_⟩
          refine w_nil ?_
          exact n_then ⟨rfl, hU⟩
        rintro E h6 N6' D ⟨rfl, cs', F', hS6, hz6, hF6, hoth6, hU6⟩
        obtain ⟨m7, hS7, hO7, hk7, hk8⟩ := hbk _ _ hS6
        have hne1 : ∀ x cs t fz, m5 x = some (.cells cs t fz) → Nat.beq t 85 = false → m7 x = some (.cells cs t fz) := fun x cs t fz hx ht => by
          by_cases e : blk (.slice ai ni ci) = some x
          · exact hk8 _ _ hx e
          · refine hk7 _ _ ((hset_ne _ _ ?_).trans (hkl _ _ hx e))
            exact ne_of_ty hx c1 ht
        refine n_block ⟨m7, hS7, hk7 _ _ ((hset_ne _ _ (ne_of_obj hd5 c1 (by intro e; cases e))).trans (hkl _ _ hd5 (hO5.nodef hd5))), F', ai, ni, ci, ys, ⟨cs', hk7 _ _ (hset_same _ _ _), hz6, hF6⟩, ?_, hne1 _ _ _ _ g115 rfl, hO7, ?_, ?_⟩
        · obtain ⟨c, d1, d2⟩ := m25
          exact ⟨c, hk7 _ _ ((hset_ne _ _ hne.symm).trans (hkl _ _ d1 (hO5.noty d1 rfl))), d2⟩
        · intro a ha x hx
          rw [hdrop] at ha
          by_cases e : a = i
          · subst e; exact hU6.all (fun y => hys.mem_iff) hx
          · have ha' : a ∈ ord.drop (j + 1) := by
              rcases List.mem_cons.1 ha with h1 | h1
              · exact absurd h1 e
              · exact h1
            rw [hoth6 a x (hlt a (List.mem_of_mem_drop ha')) e hx]
            exact hdn a ha' x hx
        · intro a ha hna x hx
          rw [hdrop, List.mem_cons] at hna
          rw [hoth6 a x ha (fun e => hna (.inl e)) hx]
          exact hzr a ha (fun e => hna (.inr e)) x hx
      · rintro m' h' N' ⟨F1, ai, ni, ci, xs, m1, m2, g11, hOx, hdn, hzr⟩ hS' hd
        refine n_then ⟨⟨rfl, rfl, rfl, rfl, rfl, trivial⟩, rfl, m', F1, hS', hd, m1, m2, fun i x hi hx => hdn i (by rw [List.drop_zero]; exact hall i hi) x hx⟩
    clear hS m1 m2 g11 hofr
    rintro E h11 N11 D ⟨hE, rfl, m, F1, hS, hd, m1, m2, hF1⟩
    obtain ⟨E5, rfl⟩ := hE.ex
    refine n_block (n_then ?_)
    refine c_seq ?_
    refine c_region (by kernel_rfl) ?_
    refine st_q (ok_loadAgg (ty rfl) rfl (hS.oth _ _ hf7.z4) (Nat.le_of_ble_eq_true rfl) rfl ⟨rfl, rfl, rfl⟩) ?_
    refine st_q (ok_load (ty rfl) rfl (hS.oth _ _ hf7.z3) rfl ⟨rfl, rfl, rfl⟩) ?_
    refine st_q (ok_makeFunc rfl rfl ⟨rfl, rfl, rfl⟩) ?_
    refine st_q (ok_makeFunc rfl rfl ⟨rfl, rfl, rfl⟩) ?_
    refine st (ok_call rfl ent28 (newFanUnion_ok) rfl ?_)
    rintro _ h12 N12 ⟨hx12, b3, b4', rfl⟩
    refine st (ok_alloc (ty rfl) rfl (fun hN15 => ?_))
    refine st0 (ok_storeL (ty rfl) rfl (v := .agg _) rfl rfl rfl rfl (hset_same _ _ _) (Nat.le_of_ble_eq_true rfl) ?_)
    refine o_nil ?_
    refine n_then ?_
    obtain ⟨hS1, hmx⟩ := (hS.ext hx12).unlend hm7
    have hZs : Ext Z (sub X7 mp) := fun c o hc => by
      have h1 : mp c = none := (hdis c).resolve_right (by rw [hc]; exact fun e => by cases e)
      rw [sub_eq h1]; exact hZ7 _ _ hc
    have z10s : (sub X7 mp) N4 = some (.cells #[.func (.func 26) #[] #[.pointer (some ⟨b6, 0, none⟩)]] 102 (0, 0)) := (sub_eq hmp4).trans z10
    have xN12 : (sub X7 mp) N12 = none := hS1.oth.back (hN15 _ (Nat.le_refl _))
    refine c_heap (fun h' _ => ∃ m Z2, Sep m Z2 h' ∧ Ext Z Z2 ∧ Z2 N4 = some (.cells #[.func (.func 26) #[] #[.pointer (some ⟨b6, 0, none⟩)]] 102 (0, 0)) ∧ Z2 N12 = some (.cells (ucells an n nc bs false (.func (.func 14) #[.pointer (some ⟨bc, 0, none⟩)] #[]) (.func (.func 33) #[] #[.pointer (some ⟨N4, 0, none⟩)]) (.slice (some ⟨b3, 0, none⟩) 0 0) (.slice (some ⟨b4', 0, none⟩) 0 0)) 105 (0, 0)) ∧ m N10 = some (.deferred (some [])) ∧ Mat m rb1 n W F1 ∧ Mat m rb2 n W (fun _ => 0) ∧ Rows m bq n V' (fun j => Pl S n j)) ⟨_, _, (hS1.newX (hN15 _ (Nat.le_refl _)) _).setX (hset_same _ _ _) _, hZs.trans (((Ext.refl _).fresh xN12 _).fresh xN12 _), (((Ext.refl _).fresh xN12 _).fresh xN12 _) _ _ z10s, hset_same _ _ _, hmx _ _ hd, m1.ext hmx, m2.ext hmx, hRp.ext (uni_l _ _)⟩ ?_
    clear hS hS1 hmx hZs z10s xN12 hd m1 m2 hx12 hm7 hZ7 hf7 z10 z12 zbb
    rintro h13 N13 ⟨m, Z2, hS, hZ2, z10, z15, hd, m1, m2, hRq⟩
    have hf2 := hf.mono hZ2
    clear hf hZ2
    refine c_seq ?_
    refine c_region (by kernel_rfl) ?_
    refine st_q (ok_move (v := .slice _ _ _) rfl ⟨rfl, rfl, rfl⟩) ?_
    refine st_q (ok_len (sl rfl) rfl ⟨rfl, rfl, rfl⟩) ?_
    refine st_q (ok_move (v := .int _ _) rfl ⟨rfl, rfl, rfl⟩) ?_
    refine o_nil ?_
    refine n_then ?_
    refine c_block ?_
    refine c_loop (fun k E h' _ D => D = [mark N10] ∧ k ≤ n ∧ (∃ m F2 Q, Sep m Z2 h' ∧ m N10 = some (.deferred (some [])) ∧ Mat m rb1 n W F1 ∧ Mat m rb2 n W F2 ∧ Rows m bq n V' Q ∧ (∀ j, j < n → (Q j).Perm (Pl S n j)) ∧ (∀ c, c ∈ ord.take (n - k) → ∀ x, x < n → (bit W F2 c x = true ↔ RC (fun j => Pl S n j) c x)) ∧ ∀ c, c < n → c ∉ ord.take (n - k) → ∀ x, x < n → bit W F2 c x = false) ∧ Fr E [(3, .pointer (some ⟨N, 0, none⟩)), (9, .slice (some ⟨bq, 0, none⟩) n n), (10, .pointer (some ⟨N4, 0, none⟩)), (15, .pointer (some ⟨N12, 0, none⟩)), (83, .slice (some ⟨bo, 0, none⟩) n co), (84, .int .i64 (n : Int)), (85, .int .i64 ((n - k : Nat) : Int))]) (k := n)
      ⟨rfl, Nat.le_refl _, ⟨m, _, _, hS, hd, m1, m2, hRq, fun j _ => List.Perm.refl _, (fun c hc => by rw [Nat.sub_self, List.take_zero] at hc; cases hc), fun c _ _ x _ => bit_none W c x⟩, rfl, rfl, rfl, rfl, rfl, rfl, by rw [Nat.sub_self]; rfl, trivial⟩ ?_
    clear hS hd m1 m2 hRq
    rintro k2 E h14 N14 D ⟨rfl, hk2, ⟨m, F2, Q, hS, hd, m1, m2, hRq, hQ, hdn, hzr⟩, hE⟩
    obtain ⟨E6, rfl⟩ := hE.ex
    refine c_seq ?_
    refine c_region (by kernel_rfl) ?_
    refine st_q (ok_lss rfl rfl ⟨rfl, rfl, rfl⟩) ?_
    refine o_nil ?_
    refine n_then ?_
    refine c_seq ?_
    refine c_cond_prop rfl (fun hc2 => ?_) (fun hc2 => ?_)
    · skip
      generalize hq : n - k2 = q at *
      have hqn : q < n := by omega
      have hoq := hrow q hqn
      have hcn := hlt (ord[q]'(by omega)) (List.getElem_mem _)
      have htake : ord.take (q + 1) = ord.take q ++ [ord[q]'(by omega)] := List.take_succ_eq_append_getElem (by omega)
      have hear : ∀ y, y ∈ Pl S n (ord[q]'(by omega)) → y ∈ ord.take q ∧ y ≠ ord[q]'(by omega) := fun y hy => earlier hT hnd (by omega) rfl (mem_Pl.1 hy).1 (mem_Pl.1 hy).2
      have hcnot := (take_nodup hnd (show q < ord.length by omega)).1
      generalize ord[q]'(by omega) = c at *
      obtain ⟨vq, q1, q2, q3⟩ := hRq.top
      have hOc := hRq.own c hcn
      obtain ⟨aq, cq, hVc, _, _⟩ := hOc.row
      have hqc := q3 c hcn
      rw [hVc] at hqc
      have hQc := hQ c hcn
      have hQl : (Q c).length ≤ n := by rw [hQc.length_eq]; exact Pl_len S n c
      refine c_skip ?_
      refine n_then ?_
      refine c_seq ?_
      refine c_block ?_
      refine c_seq ?_
      refine c_region (by kernel_rfl) ?_
      refine st_q (ok_indexAddr (sl rfl) (ty rfl) rfl rfl (by omega) (by omega) (off := q) (by omega) ⟨rfl, rfl, rfl⟩) ?_
      refine st_q (ok_load (ty rfl) rfl (hS.oth _ _ (hf2.ext _ _ xo)) hoq ⟨rfl, rfl, rfl⟩) ?_
      refine st_q (ok_assign (v := .int _ _) rfl ⟨rfl, rfl, rfl⟩) ?_
      refine o_nil ?_
      refine n_then ?_
      refine c_seq ?_
      refine c_region (by kernel_rfl) ?_
      refine st_q (ok_load (ty rfl) rfl (hS.oth _ _ hf2.z3) rfl ⟨rfl, rfl, rfl⟩) ?_
      refine st_q (ok_move (v := .int _ _) rfl ⟨rfl, rfl, rfl⟩) ?_
      refine st (ok_call rfl ent14 (hofc _ hf2.ext _ _ c hS.oth hcn) rfl ?_)
      rintro _ h2 N2 ⟨rfl, rfl, rfl⟩
      refine st_q (ok_move (v := .int _ _) rfl ⟨rfl, rfl, rfl⟩) ?_
      refine st (ok_call rfl ent30 (fuAdd_ok (hS.oth _ _ z15)) rfl ?_)
      rintro _ h3 N3 ⟨rfl, hx3⟩
      refine o_nil ?_
      refine n_then ?_
      have hS := hS.ext hx3
      refine c_seq ?_
      have hOv : Own m 3 1 (.slice aq (Q c).length cq) (ints (Q c)) := by rw [← hVc]; exact hOc
      refine c_cut (fun E h' _ D => D = [mark N10] ∧ Fr E [(3, .pointer (some ⟨N, 0, none⟩)), (9, .slice (some ⟨bq, 0, none⟩) n n), (10, .pointer (some ⟨N4, 0, none⟩)), (15, .pointer (some ⟨N12, 0, none⟩)), (17, .int .i64 (c : Int)), (83, .slice (some ⟨bo, 0, none⟩) n co), (84, .int .i64 (n : Int)), (85, .int .i64 (q : Int))] ∧ ∃ m5 ys, Sep m5 Z2 h' ∧ ys.Perm (Q c) ∧ Own m5 3 1 (.slice aq (Q c).length cq) (ints ys) ∧ ∀ d, blk (.slice aq (Q c).length cq) ≠ some d → m5 d = m d) ?_ ?_
      · skip
        refine c_draw mixed [0, 0, 0, 0, 0, 2] 6 rfl [((0, 2), [((1, 2), [((2, 2), [((3, 1), [((4, 1), [((5, 0), ())])])])])])] (by kernel_rfl) (by kernel_rfl) ?_
        refine w_p rfl (fun _ _ => ok_move (v := .slice _ _ _) rfl ⟨rfl, rfl, rfl⟩) ?_
        refine w_p rfl (fun _ _ => ok_move (v := .int _ _) rfl ⟨rfl, rfl, rfl⟩) ?_
        refine w_p rfl (fun _ _ => ok_indexAddr (sl rfl) (ty rfl) rfl rfl (by omega) (by omega) (off := c) (by omega) ⟨rfl, rfl, rfl⟩) ?_
        refine w_r rfl (fun _ _ hExt => ok_load (ty rfl) rfl (hExt _ _ (hS.own _ _ q1)) hqc ⟨rfl, rfl, rfl⟩) ?_
        refine w_r rfl (fun _ _ hExt => ok_load (ty rfl) rfl (hExt _ _ (hS.oth _ _ z10)) rfl ⟨rfl, rfl, rfl⟩) ?_
        refine w_e rfl (ok_call rfl ent31 (sortF_ok hS hOv (by omega) (fun y hy => (mem_Pl.1 (hQc.mem_iff.1 hy)).1) (hS.oth _ _ hf2.z6) (hS.oth _ _ hf2.zp) hpv (hOv.noX hS hf2.z6) (hOv.noX hS hf2.zp)) rfl ?_)
        rintro _ h5 N5' ⟨rfl, m5, ys, hS5, hys, hO5, hk5⟩
        refine ⟨trivial, ?_⟩
        refine w_nil ?_
        exact n_then ⟨rfl, ⟨rfl, rfl, rfl, rfl, rfl, rfl, rfl, rfl, trivial⟩, m5, ys, hS5, hys, hO5, hk5⟩
      rintro E h5 N5' D ⟨rfl, hE, m5, ys, hS5, hys, hO5, hk5⟩
      obtain ⟨E7, rfl⟩ := hE.ex
      refine n_then ?_
      refine c_seq ?_
      have q15 := (hk5 _ (hOv.noty q1 rfl)).trans q1
      have hyl : ys.length ≤ n := by rw [hys.length_eq]; exact hQl
      refine c_region (by kernel_rfl) ?_
      refine st_q (ok_move (v := .slice _ _ _) rfl ⟨rfl, rfl, rfl⟩) ?_
      refine st_q (ok_move (v := .int _ _) rfl ⟨rfl, rfl, rfl⟩) ?_
      refine st_q (ok_indexAddr (sl rfl) (ty rfl) rfl rfl (by omega) (by omega) (off := c) (by omega) ⟨rfl, rfl, rfl⟩) ?_
      refine st_q (ok_load (ty rfl) rfl (hS5.own _ _ q15) hqc ⟨rfl, rfl, rfl⟩) ?_
      refine st (ok_call rfl ent34 (reverse_ok hS5 hO5 (by omega)) rfl ?_)
      rintro _ h6 N6' ⟨rfl, m6, hS6, hO6, hk6⟩
      refine o_nil ?_
      refine n_then ?_
      have hkk : ∀ d, blk (.slice aq (Q c).length cq) ≠ some d → m6 d = m d := fun d hd => (hk6 d hd).trans (hk5 d hd)
      have q16 := (hkk _ (hOv.noty q1 rfl)).trans q1
      have hd6 := (hkk _ (hOv.nodef hd)).trans hd
      have m16 : Mat m6 rb1 n W F1 := by obtain ⟨c, c1, c2⟩ := m1; exact ⟨c, (hkk _ (hOv.noty c1 rfl)).trans c1, c2⟩
      obtain ⟨cs2, c1, c2, c3⟩ : Mat m6 rb2 n W F2 := by obtain ⟨c, c1, c2⟩ := m2; exact ⟨c, (hkk _ (hOv.noty c1 rfl)).trans c1, c2⟩
      have hRq6 := hRq.same hcn (m' := m6) (ys := ys.reverse) (by rw [hVc]; exact hO6) (by rw [hVc]; exact hkk)
      have hyp : ys.reverse.Perm (Pl S n c) := (List.reverse_perm ys).trans (hys.trans hQc)
      obtain ⟨ml, Xl, hSl6, hOl, hXl, hkl, hbk⟩ := own_lend hS6 hO6
      have hylr : ys.reverse.length ≤ 1000 := by rw [List.length_reverse]; omega
      clear hS hS5 hd m1 m2 hRq hk5 hk6 hO5 q15
      refine c_cut (fun E h' _ D => D = [mark N10] ∧ Fr E [(3, .pointer (some ⟨N, 0, none⟩)), (9, .slice (some ⟨bq, 0, none⟩) n n), (10, .pointer (some ⟨N4, 0, none⟩)), (15, .pointer (some ⟨N12, 0, none⟩)), (83, .slice (some ⟨bo, 0, none⟩) n co), (84, .int .i64 (n : Int)), (85, .int .i64 (q : Int))] ∧ ∃ cs' F', Sep (hset ml rb2 (.cells cs' 85 (0, 0))) Xl h' ∧ cs'.size = n * W ∧ Wd cs' F' ∧ (∀ j x, j < n → j ≠ c → x < n → bit W F' j x = bit W F2 j x) ∧ UInv (fun j => Pl S n j) c n ys.reverse (bit W F' c)) ?_ ?_
      · skip
        refine c_draw mixed [0, 0, 0, 0, 0, 0, 0, 0, 0, 0, 2] 11 rfl [((0, 1), [((1, 2), [((2, 1), [((3, 2), [((4, 2), [((5, 2), [((6, 2), [((7, 1), [((8, 1), [((9, 2), [((10, 0), ())])])])])])])])])])])] (by kernel_rfl) (by kernel_rfl) ?_
        refine w_r rfl (fun _ _ hExt => ok_load (ty rfl) rfl (hExt _ _ (hS6.oth _ _ hf2.z3)) rfl ⟨rfl, rfl, rfl⟩) ?_
        refine w_p rfl (fun _ _ => ok_move (v := .int _ _) rfl ⟨rfl, rfl, rfl⟩) ?_
        refine w_r rfl (fun h' N' hExt => ok_call rfl ent14 (hofc _ hf2.ext _ _ c (hS6.oth.trans hExt) hcn) rfl (fun _ _ _ hR => hR)) ?_
        refine w_p rfl (fun _ _ => ok_move (v := .int _ _) rfl ⟨rfl, rfl, rfl⟩) ?_
        refine w_p rfl (fun _ _ => ok_move (v := .slice _ _ _) rfl ⟨rfl, rfl, rfl⟩) ?_
        refine w_p rfl (fun _ _ => ok_move (v := .int _ _) rfl ⟨rfl, rfl, rfl⟩) ?_
        refine w_p rfl (fun _ _ => ok_indexAddr (sl rfl) (ty rfl) rfl rfl (by omega) (by omega) (off := c) (by omega) ⟨rfl, rfl, rfl⟩) ?_
        refine w_r rfl (fun _ _ hExt => ok_load (ty rfl) rfl (hExt _ _ (hS6.own _ _ q16)) hqc ⟨rfl, rfl, rfl⟩) ?_
        refine w_r rfl (fun _ _ hExt => ok_load (ty rfl) rfl (hExt _ _ (hS6.oth _ _ hf2.z3)) rfl ⟨rfl, rfl, rfl⟩) ?_
        refine w_p rfl (fun _ _ => ok_makeFunc rfl rfl ⟨rfl, rfl, rfl⟩) ?_
        refine w_e rfl (ok_call rfl ent32 (union_ok hSl6 (hkl _ _ c1 (hO6.noty c1 rfl)) c3 c2 hnW (by omega) (by omega) hcn hOl hylr (fun y hy => ⟨(mem_Pl.1 (hyp.mem_iff.1 hy)).1, (hear y (hyp.mem_iff.1 hy)).2⟩) ent14 (hofc _ (hf2.ext.trans hXl)) (hzr c hcn hcnot) (fun y hy => hdn y (hear y (hyp.mem_iff.1 hy)).1)) rfl ?_)
        rintro _ h7 N7' ⟨rfl, hU⟩
        refine ⟨trivial, ?_⟩
        refine w_nil ?_
        exact n_then ⟨rfl, ⟨rfl, rfl, rfl, rfl, rfl, rfl, rfl, trivial⟩, hU⟩
      rintro E h7 N7' D ⟨rfl, hE, cs', F', hS7, hz7, hF7, hoth7, hU7⟩
      obtain ⟨E8, rfl⟩ := hE.ex
      obtain ⟨m8, hS8, hO8, hk8, hk9⟩ := hbk _ _ hS7
      have hne1 : ∀ x cs t fz, m6 x = some (.cells cs t fz) → Nat.beq 85 t = false → m8 x = some (.cells cs t fz) := fun x cs t fz hx ht => by
        by_cases e : blk (.slice aq (Q c).length cq) = some x
        · exact hk9 _ _ hx e
        · refine hk8 _ _ ((hset_ne _ _ ?_).trans (hkl _ _ hx e))
          exact (ne_of_ty c1 hx ht).symm
      refine n_block (n_then ?_)
      refine c_region (by kernel_rfl) ?_
      refine st_q (ok_add rfl rfl (by omega) (by omega) ⟨rfl, rfl, rfl⟩) ?_
      refine st_q (ok_move (v := .int _ _) rfl ⟨rfl, rfl, rfl⟩) ?_
      refine o_nil ?_
      refine n_then ⟨k2 - 1, by omega, rfl, by omega, ⟨m8, F', _, hS8, hk8 _ _ ((hset_ne _ _ (ne_of_obj hd6 c1 (by intro e; cases e))).trans (hkl _ _ hd6 (hO6.nodef hd6))), ?_, ⟨cs', hk8 _ _ (hset_same _ _ _), hz7, hF7⟩, hRq6.move hne1, fun j hj => ?_, ?_, ?_⟩, rfl, rfl, rfl, rfl, rfl, rfl, ?_, trivial⟩
      · obtain ⟨e, d1, d2⟩ := m16
        exact ⟨e, hk8 _ _ ((hset_ne _ _ hne).trans (hkl _ _ d1 (hO6.noty d1 rfl))), d2⟩
      · by_cases e : j = c
        · subst e; simp only [if_true]; exact hyp
        · simp only [e, if_false]; exact hQ j hj
      · rw [show n - (k2 - 1) = q + 1 from by omega, htake]
        intro a ha x hx
        by_cases e : a = c
        · subst e; exact hU7.all (fun y => hyp.mem_iff) hx
        · have ha' : a ∈ ord.take q := by
            rcases List.mem_append.1 ha with h1 | h1
            · exact h1
            · simp at h1; exact absurd h1 e
          rw [hoth7 a x (hlt a (List.mem_of_mem_take ha')) e hx]
          exact hdn a ha' x hx
      · rw [show n - (k2 - 1) = q + 1 from by omega, htake]
        intro a ha hna x hx
        rw [List.mem_append] at hna
        rw [hoth7 a x ha (fun e => hna (.inr (by simp [e]))) hx]
        exact hzr a ha (fun e => hna (.inl e)) x hx
      · show Value.int .i64 ((q : Int) + 1) = _
        congr 1; omega
    · skip
      refine c_exit ?_
      refine x_then (x_then (x_block ?_))
      have hk0 : k2 = 0 := by omega
      subst hk0
      have hX9 := hS.set hd (.deferred none)
      refine n_leave ⟨N10, rfl, hS.own _ _ hd, leave_none rfl ⟨rfl, _, F1, F2, hX9.dropX hf2.ext, m1.off ?_, m2.off ?_, hF1, fun j x hj hx => ?_⟩⟩
      · obtain ⟨c, c1, _⟩ := m1; exact ne_of_obj c1 hd (by intro e; cases e)
      · obtain ⟨c, c1, _⟩ := m2; exact ne_of_obj c1 hd (by intro e; cases e)
      · rw [hdn j (by rw [Nat.sub_zero, List.take_of_length_le (by omega)]; exact hall j hj) x hx]
        exact rc_turn hSl hx
end
end Sx
end Go.Proofs.YbulkcsqkGreat
