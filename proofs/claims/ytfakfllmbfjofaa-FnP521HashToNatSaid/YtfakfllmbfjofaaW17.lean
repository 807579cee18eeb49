/- bigmod: setBytes. -/
import Derived.Test.YtfakfllmbfjofaaW16
import Derived.Test.YtfakfllmbfjofaaPlBytes
open Go Go.Fl
namespace Go.Proofs.Ytfakfllmbfjofaa
set_option linter.unusedSimpArgs false
set_option linter.unusedVariables false
set_option maxRecDepth 100000

/-- the bytes of a row, the last one first, and zeros behind them -/
def zb (y : Nat → Nat) (m : Nat) : Nat → Nat := fun t => if t < m then y (m - 1 - t) else 0

theorem numB_stop {z : Nat → Nat} {t : Nat} : ∀ {s : Nat}, t ≤ s → (∀ u, t ≤ u → z u = 0) → BN.numB z s = BN.numB z t
  | 0, h, _ => by rw [show t = 0 by omega]
  | s + 1, h, hz => by
    rcases Nat.lt_or_ge s t with h1 | h1
    · rw [show t = s + 1 by omega]
    · rw [BN.numB, numB_stop h1 hz, hz s h1]; simp

theorem numB_lt8 {z : Nat → Nat} (hz : ∀ u, z u < 256) {t : Nat} (ht : t ≤ 8) : BN.numB z t < 18446744073709551616 := by
  have h1 := BN.numB_lt hz t
  have h2 : 256 ^ t ≤ 256 ^ 8 := Nat.pow_le_pow_right (by decide) ht
  have h3 : 256 ^ 8 = 18446744073709551616 := by decide
  omega

theorem zb_out {y : Nat → Nat} {m t : Nat} (h : m ≤ t) : zb y m t = 0 := if_neg (by omega)
theorem zb_in {y : Nat → Nat} {m t : Nat} (h : t < m) : zb y m t = y (m - 1 - t) := if_pos h

theorem lw_out {y : Nat → Nat} {m j : Nat} (h : m ≤ 8 * j) : BN.lw (zb y m) j = 0 := by
  unfold BN.lw
  rw [numB_stop (t := 0) (by omega) (fun u _ => zb_out (by omega))]
  rfl

theorem lw_part {y : Nat → Nat} {m k t : Nat} (h : m = 8 * k + t) (ht : t ≤ 8) : BN.numB (fun u => zb y m (8 * k + u)) t = BN.lw (zb y m) k :=
  (numB_stop ht (fun u hu => zb_out (by omega))).symm

/-- limbs k and below are done, and t bytes of limb k -/
def pl (y : Nat → Nat) (m : Nat) (x : Nat → Nat) (n k t : Nat) : Nat → Nat := fun j => if j < k then BN.lw (zb y m) j else if j = k ∧ k < n then BN.numB (fun u => zb y m (8 * k + u)) t else x j

theorem pl_0 {y x : Nat → Nat} {m n k : Nat} (hx0 : ∀ j, j < n → x j = 0) : pl y m x n k 0 = fun j => if j < k then BN.lw (zb y m) j else x j := by
  funext j
  unfold pl
  by_cases h1 : j < k
  · rw [if_pos h1, if_pos h1]
  · rw [if_neg h1, if_neg h1]
    split
    · rename_i h2; rw [BN.numB, h2.1, hx0 k h2.2]
    · rfl

theorem pl_end {y x : Nat → Nat} {m n k t : Nat} (hx0 : ∀ j, j < n → x j = 0) (hk : k ≤ n) (hm : m = 8 * k + t) (ht : t ≤ 8) (hmn : m ≤ 8 * n) (j : Nat) : pl y m x n k t j = if j < n then BN.lw (zb y m) j else x j := by
  unfold pl
  by_cases h1 : j < k
  · rw [if_pos h1, if_pos (by omega)]
  · rw [if_neg h1]
    by_cases h2 : j = k ∧ k < n
    · rw [if_pos h2, if_pos (by omega), lw_part hm ht, h2.1]
    · rw [if_neg h2]
      by_cases h3 : j < n
      · rw [if_pos h3, lw_out (by omega), hx0 j h3]
      · rw [if_neg h3]

theorem numB8 (z : Nat → Nat) (k : Nat) (y : Nat → Nat) (h : ∀ u, u < 8 → z (8 * k + u) = y (7 - u)) : be8 y = BN.lw z k := by
  unfold BN.lw
  simp only [BN.numB, h 0 (by omega), h 1 (by omega), h 2 (by omega), h 3 (by omega), h 4 (by omega), h 5 (by omega), h 6 (by omega), h 7 (by omega), be8, Nat.sub_zero, Nat.reduceSub]
  omega

theorem or_u64c (a k i : Nat) (ha : a < 2 ^ i) (h : 2 ^ i * k + a < 18446744073709551616) : bits .or .u64 (a : Int) ((2 ^ i * k : Nat) : Int) = ((2 ^ i * k + a : Nat) : Int) := by
  rw [u64_or_nat a (2 ^ i * k) (by omega) (by omega), Nat.or_comm, ← Nat.two_pow_add_eq_or_of_lt ha]

theorem shl_u64n (y i : Nat) (hi : i ≤ 64) (h : 2 ^ i * y < 18446744073709551616) : sh .shl (.int .u64 (y : Int)) (.int .i64 (i : Int)) = some (.int .u64 ((2 ^ i * y : Nat) : Int)) := by
  have e : min i IntKind.u64.bits = i := Nat.min_eq_left hi
  rw [sh_shl (by omega), Int.toNat_natCast, e]
  have e2 : ((y : Int) * 2 ^ i) = ((2 ^ i * y : Nat) : Int) := by rw [Nat.mul_comm]; simp
  rw [e2, IntKind.wrap_u64]
  congr 2
  omega

theorem setBytes_inv (w0 : World) {h : Hp} {b l n bb off m c : Nat} {x y : Nat → Nat} (e : NA h b l n x) (hx0 : ∀ j, j < n → x j = 0) (hm : m ≤ 8 * n) (hmc : m ≤ c) (hbl : bb ≠ l)
    (hc : ∀ j, j < m → cel h ⟨bb, off + j, none⟩ = some (.int .u8 (y j : Nat))) (hy : ∀ j, y j < 256) :
    Inv Try.prog w0 89 #[.pointer (some ⟨b, 0, none⟩), .slice (some ⟨bb, off, none⟩) m c] h fun v h' =>
      v = .nilIface ∧ NA h' b l n (fun j => if j < n then BN.lw (zb y m) j else x j) ∧ Ch [l] h h' := by
  refine Inv_of_Wc (args := [_, _]) Try.func89 rfl Try.ntmps89 (Nat.le_of_ble_eq_true rfl) hb89 ?_
  refine Wc_seq_k fun K hK => ?_
  refine Wc_plain [] rfl ?_
  simp only [true_and, vc_nil, ↓vc_move, ↓vc_assign, ↓vc_pick, ↓vc_nilCheck, ↓vc_bin, ↓vc_un, ↓vc_conv, ↓vc_extract, ↓vc_fieldAddr, ↓vc_len, ↓vc_cap, ↓vc_indexAddr, ↓vc_slice0, ↓vc_sliceH, ↓vc_sliceL, ↓vc_sliceB, ↓vc_load2, ↓vc_load1, ↓vc_store2, ↓vc_store1, ↓vc_call2, ↓vc_callW, ↓vc_callQ, ↓vc_guard, ↓ev_tmp, ↓ev_const, ↓ev_func, ↓lk_cons, ↓putL_some, ↓putL_none, ↓List.headD_nil, ↓List.tail_nil, ↓List.headD_cons, ↓List.tail_cons, thn, enumL, ↓reduceIte, Nat.reduceLT, Nat.reduceLeDiff, Nat.reduceEqDiff, Nat.reduceAdd, Nat.reduceMul, Nat.reduceSub, Nat.zero_add, Nat.add_zero, Nat.mul_one, List.map_toArray, List.map_cons, List.map_nil, reduceCtorEq, Int.toNat_natCast, List.getElem?_toArray, List.getElem?_cons_zero, List.getElem?_cons_succ, Bool.not_true, Bool.not_false, bop_lss, bop_leq, bop_gtr, bop_geq, bop_eql, bop_neq, bop_add, bop_sub, bop_mul, bop_and, bop_or, bop_xor, bop_andNot, oc, List.cons_append, List.nil_append]
  (refine hK _ _ ?_; clear hK; try clear K)
  refine Wc_seq_k fun K hK => ?_
  refine Wc_plain [] rfl ?_
  simp only [true_and, vc_nil, ↓vc_move, ↓vc_assign, ↓vc_pick, ↓vc_nilCheck, ↓vc_bin, ↓vc_un, ↓vc_conv, ↓vc_extract, ↓vc_fieldAddr, ↓vc_len, ↓vc_cap, ↓vc_indexAddr, ↓vc_slice0, ↓vc_sliceH, ↓vc_sliceL, ↓vc_sliceB, ↓vc_load2, ↓vc_load1, ↓vc_store2, ↓vc_store1, ↓vc_call2, ↓vc_callW, ↓vc_callQ, ↓vc_guard, ↓ev_tmp, ↓ev_const, ↓ev_func, ↓lk_cons, ↓putL_some, ↓putL_none, ↓List.headD_nil, ↓List.tail_nil, ↓List.headD_cons, ↓List.tail_cons, thn, enumL, ↓reduceIte, Nat.reduceLT, Nat.reduceLeDiff, Nat.reduceEqDiff, Nat.reduceAdd, Nat.reduceMul, Nat.reduceSub, Nat.zero_add, Nat.add_zero, Nat.mul_one, List.map_toArray, List.map_cons, List.map_nil, reduceCtorEq, Int.toNat_natCast, List.getElem?_toArray, List.getElem?_cons_zero, List.getElem?_cons_succ, Bool.not_true, Bool.not_false, bop_lss, bop_leq, bop_gtr, bop_geq, bop_eql, bop_neq, bop_add, bop_sub, bop_mul, bop_and, bop_or, bop_xor, bop_andNot, oc, List.cons_append, List.nil_append, isl30]
  (refine hK _ _ ?_; clear hK; try clear K)
  have hn := e.hn
  have hz : ∀ t, zb y m t < 256 := fun t => ite_lt (hy _) (by decide)
  have hall : ∀ w, rowOf (hset h l (U w 32) 102) l = some (U w 32, 102) := fun w => rowOf_hset_self e.hl
  have hbr : ∀ w, rowOf (hset h l (U w 32) 102) b = some (#[.slice (some ⟨l, 0, none⟩) n 32], 108) := fun w => (rowOf_hset_ne _ _ (Ne.symm e.ne)).trans e.hb
  have hcw : ∀ w j, j < m → cel (hset h l (U w 32) 102) ⟨bb, off + j, none⟩ = some (.int .u8 (y j : Nat)) := fun w j hj => by
    have := hc j hj
    unfold cel at this ⊢
    rw [hset_get_ne _ _ (Ne.symm hbl)]
    exact this
  have h1776 : (17 : Int) < ((76 : Nat) : Int) := by decide
  have h3976 : (39 : Int) < ((76 : Nat) : Int) := by decide
  have h4876 : (48 : Int) < ((76 : Nat) : Int) := by decide
  refine Wc_seq_k fun Ko hKo => ?_
  have fin1 : ∀ (k : Nat) (D : FL) (v20 v19 v18 v17 v16 : Value), k ≤ n → 8 * k ≤ m → m < 8 * k + 8 → Ko ((20, v20) :: (19, v19) :: (18, v18) :: (17, v17) :: (16, v16) :: (15, Value.int IntKind.i64 n) :: (14, Value.slice (some { block := l, off := 0 }) n 32) :: (13, Value.pointer (some { block := b, off := 0 })) :: (12, Value.pointer (some { block := b, off := 0 })) :: (11, Value.pointer (some { block := b, off := 0 })) ::
      (10, Value.int IntKind.i64 k) :: (6, Value.int IntKind.i64 k) :: (5, Value.int IntKind.i64 (m - 8 * k)) :: (0, Value.pointer (some { block := b, off := 0 })) :: (1, Value.slice (some { block := bb, off := off }) m c) :: (4, Value.nilIface) :: D) (hset h l (U (fun j => if j < k then BN.lw (zb y m) j else x j) 32) 102) := by
    intro k D v20 v19 v18 v17 v16 hk hkm hlt
    (refine hKo _ _ ?_; clear hKo; try clear Ko)
    refine Wc_seq_k fun Kp hKp => ?_
    refine Wc_seq_k fun K hK => ?_
    refine Wc_plain [] rfl ?_
    simp only [true_and, vc_nil, ↓vc_move, ↓vc_assign, ↓vc_pick, ↓vc_nilCheck, ↓vc_bin, ↓vc_un, ↓vc_conv, ↓vc_extract, ↓vc_fieldAddr, ↓vc_len, ↓vc_cap, ↓vc_indexAddr, ↓vc_slice0, ↓vc_sliceH, ↓vc_sliceL, ↓vc_sliceB, ↓vc_load2, ↓vc_load1, ↓vc_store2, ↓vc_store1, ↓vc_call2, ↓vc_callW, ↓vc_callQ, ↓vc_guard, ↓ev_tmp, ↓ev_const, ↓ev_func, ↓lk_cons, ↓putL_some, ↓putL_none, ↓List.headD_nil, ↓List.tail_nil, ↓List.headD_cons, ↓List.tail_cons, thn, enumL, ↓reduceIte, Nat.reduceLT, Nat.reduceLeDiff, Nat.reduceEqDiff, Nat.reduceAdd, Nat.reduceMul, Nat.reduceSub, Nat.zero_add, Nat.add_zero, Nat.mul_one, List.map_toArray, List.map_cons, List.map_nil, reduceCtorEq, Int.toNat_natCast, List.getElem?_toArray, List.getElem?_cons_zero, List.getElem?_cons_succ, Bool.not_true, Bool.not_false, bop_lss, bop_leq, bop_gtr, bop_geq, bop_eql, bop_neq, bop_add, bop_sub, bop_mul, bop_and, bop_or, bop_xor, bop_andNot, oc, List.cons_append, List.nil_append]
    (refine hK _ _ ?_; clear hK; try clear K)
    have fin2 : ∀ (L : FL) (t : Nat), lk L 5 = .int .i64 0 → lk L 4 = .nilIface → t < 8 → m = 8 * k + t → Kp L (hset h l (U (pl y m x n k t) 32) 102) := by
      intro L t h5 h4 ht hmt
      (refine hKp _ _ ?_; clear hKp; try clear Kp)
      refine Wc_seq_k fun Kp hKp => ?_
      refine Wc_seq_k fun K hK => ?_
      refine Wc_plain [] rfl ?_
      simp only [true_and, vc_nil, ↓vc_move, ↓vc_assign, ↓vc_pick, ↓vc_nilCheck, ↓vc_bin, ↓vc_un, ↓vc_conv, ↓vc_extract, ↓vc_fieldAddr, ↓vc_len, ↓vc_cap, ↓vc_indexAddr, ↓vc_slice0, ↓vc_sliceH, ↓vc_sliceL, ↓vc_sliceB, ↓vc_load2, ↓vc_load1, ↓vc_store2, ↓vc_store1, ↓vc_call2, ↓vc_callW, ↓vc_callQ, ↓vc_guard, ↓ev_tmp, ↓ev_const, ↓ev_func, ↓lk_cons, ↓putL_some, ↓putL_none, ↓List.headD_nil, ↓List.tail_nil, ↓List.headD_cons, ↓List.tail_cons, thn, enumL, ↓reduceIte, Nat.reduceLT, Nat.reduceLeDiff, Nat.reduceEqDiff, Nat.reduceAdd, Nat.reduceMul, Nat.reduceSub, Nat.zero_add, Nat.add_zero, Nat.mul_one, List.map_toArray, List.map_cons, List.map_nil, reduceCtorEq, Int.toNat_natCast, List.getElem?_toArray, List.getElem?_cons_zero, List.getElem?_cons_succ, Bool.not_true, Bool.not_false, bop_lss, bop_leq, bop_gtr, bop_geq, bop_eql, bop_neq, bop_add, bop_sub, bop_mul, bop_and, bop_or, bop_xor, bop_andNot, oc, List.cons_append, List.nil_append, h5, Int.lt_irrefl]
      (refine hK _ _ ?_; clear hK; try clear K)
      refine Wc_cond (t := false) rfl (fun ht => by cases ht) (fun _ => ?_)
      refine Wc_skip ?_
      (refine hKp _ _ ?_; clear hKp; try clear Kp)
      refine Wc_seq_k fun K hK => ?_
      refine Wc_plain [] rfl ?_
      simp only [true_and, vc_nil, ↓vc_move, ↓vc_assign, ↓vc_pick, ↓vc_nilCheck, ↓vc_bin, ↓vc_un, ↓vc_conv, ↓vc_extract, ↓vc_fieldAddr, ↓vc_len, ↓vc_cap, ↓vc_indexAddr, ↓vc_slice0, ↓vc_sliceH, ↓vc_sliceL, ↓vc_sliceB, ↓vc_load2, ↓vc_load1, ↓vc_store2, ↓vc_store1, ↓vc_call2, ↓vc_callW, ↓vc_callQ, ↓vc_guard, ↓ev_tmp, ↓ev_const, ↓ev_func, ↓lk_cons, ↓putL_some, ↓putL_none, ↓List.headD_nil, ↓List.tail_nil, ↓List.headD_cons, ↓List.tail_cons, thn, enumL, ↓reduceIte, Nat.reduceLT, Nat.reduceLeDiff, Nat.reduceEqDiff, Nat.reduceAdd, Nat.reduceMul, Nat.reduceSub, Nat.zero_add, Nat.add_zero, Nat.mul_one, List.map_toArray, List.map_cons, List.map_nil, reduceCtorEq, Int.toNat_natCast, List.getElem?_toArray, List.getElem?_cons_zero, List.getElem?_cons_succ, Bool.not_true, Bool.not_false, bop_lss, bop_leq, bop_gtr, bop_geq, bop_eql, bop_neq, bop_add, bop_sub, bop_mul, bop_and, bop_or, bop_xor, bop_andNot, oc, List.cons_append, List.nil_append]
      (refine hK _ _ ?_; clear hK; try clear K)
      refine Wc_ret ?_
      simp only [true_and, fin, resV, ↓ev_tmp, ↓lk_cons, ↓reduceIte, Nat.reduceLT, Nat.reduceEqDiff, List.cons_append, List.nil_append, res89, h4]
      rw [U_congr (fun j _ => pl_end (y := y) hx0 hk hmt (by omega) hm j)]
      exact ⟨e.put (fun j => if j < n then BN.lw (zb y m) j else x j) (fun j => ite_lt (BN.lw_lt hz j) (e.hx j)), Ch.hset _ _ _ (by simp)⟩
    refine Wc_block ?_
    refine Wc_rounds (α := Nat) (fun t => [(7, .int .i64 ((8 * t : Nat) : Int)), (6, .int .i64 k), (5, .int .i64 ((m : Int) - 8 * k - t)), (0, .pointer (some ⟨b, 0, none⟩)), (1, .slice (some ⟨bb, off, none⟩) m c), (4, .nilIface)])
      (fun t => hset h l (U (pl y m x n k t) 32) 102) (fun t => t < 8 ∧ 8 * k + t ≤ m) (fun t => 8 - t) 0 ⟨rfl, rfl, by simp [lk], rfl, rfl, rfl, trivial⟩ ?_ ⟨by decide, by omega⟩ ?_
    · rw [pl_0 hx0]
    rintro t D2 ⟨ht, hkt⟩
    have t1 : decide (((8 * t : Nat) : Int) < 64) = true := decide_eq_true (by omega)
    refine Wc_seq_k fun K hK => ?_
    refine Wc_seq_k fun K hK => ?_
    refine Wc_plain [(2, .int .i64 39), (11, .int .i64 48)] rfl ?_
    by_cases hkn : k < n
    · have d1 : decide ((k : Int) < (n : Int)) = true := decide_eq_true (by omega)
      by_cases h8 : 8 * k + t < m
      · have d2 : decide ((0 : Int) < (m : Int) - 8 * k - t) = true := decide_eq_true (by omega)
        simp only [true_and, vc_nil, ↓vc_move, ↓vc_assign, ↓vc_pick, ↓vc_nilCheck, ↓vc_bin, ↓vc_un, ↓vc_conv, ↓vc_extract, ↓vc_fieldAddr, ↓vc_len, ↓vc_cap, ↓vc_indexAddr, ↓vc_slice0, ↓vc_sliceH, ↓vc_sliceL, ↓vc_sliceB, ↓vc_load2, ↓vc_load1, ↓vc_store2, ↓vc_store1, ↓vc_call2, ↓vc_callW, ↓vc_callQ, ↓vc_guard, ↓ev_tmp, ↓ev_const, ↓ev_func, ↓lk_cons, ↓putL_some, ↓putL_none, ↓List.headD_nil, ↓List.tail_nil, ↓List.headD_cons, ↓List.tail_cons, thn, enumL, ↓reduceIte, Nat.reduceLT, Nat.reduceLeDiff, Nat.reduceEqDiff, Nat.reduceAdd, Nat.reduceMul, Nat.reduceSub, Nat.zero_add, Nat.add_zero, Nat.mul_one, List.map_toArray, List.map_cons, List.map_nil, reduceCtorEq, Int.toNat_natCast, List.getElem?_toArray, List.getElem?_cons_zero, List.getElem?_cons_succ, Bool.not_true, Bool.not_false, bop_lss, bop_leq, bop_gtr, bop_geq, bop_eql, bop_neq, bop_add, bop_sub, bop_mul, bop_and, bop_or, bop_xor, bop_andNot, oc, List.cons_append, List.nil_append, foff108_0, one106, cel_row (hbr _), isl106, Int.reduceLT, Int.reduceToNat, t1, d1, d2, h3976, h4876]
        (refine hK _ _ ?_; clear hK; try clear K)
        refine Wc_cond (t := true) rfl (fun _ => ?_) (fun hf => by cases hf)
        refine Wc_skip ?_
        (refine hK _ _ ?_; clear hK; try clear K)
        obtain ⟨q, hq⟩ : ∃ q, m = 8 * k + t + 1 + q := ⟨m - 8 * k - t - 1, by omega⟩
        have ep : (m : Int) - 8 * k - t = ((q + 1 : Nat) : Int) := by omega
        have eq1 : IntKind.i64.wrap (((q + 1 : Nat) : Int) - 1) = (q : Int) := by rw [wrap_i64_id (by omega) (by omega)]; omega
        have et1 : IntKind.i64.wrap (((8 * t : Nat) : Int) + 8) = ((8 * (t + 1) : Nat) : Int) := by rw [wrap_i64_id (by omega) (by omega)]; omega
        have hP : BN.numB (fun u => zb y m (8 * k + u)) t < 2 ^ (8 * t) := by rw [Nat.pow_mul]; exact BN.numB_lt (fun u => hz _) t
        have hP1 : BN.numB (fun u => zb y m (8 * k + u)) (t + 1) < 18446744073709551616 := numB_lt8 (fun u => hz _) (by omega)
        have hzy : zb y m (8 * k + t) = y q := by rw [zb_in (by omega)]; congr 1; omega
        have hP2 : BN.numB (fun u => zb y m (8 * k + u)) (t + 1) = 2 ^ (8 * t) * y q + BN.numB (fun u => zb y m (8 * k + u)) t := by
          rw [BN.numB, hzy, show (256 : Nat) ^ t = 2 ^ (8 * t) by rw [Nat.pow_mul], Nat.mul_comm (y q), Nat.add_comm]
        have hpk : pl y m x n k t k = BN.numB (fun u => zb y m (8 * k + u)) t := by unfold pl; rw [if_neg (by omega), if_pos ⟨rfl, hkn⟩]
        have s1 := shl_u64n (y q) (8 * t) (by omega) (by omega)
        have o1 := or_u64c (BN.numB (fun u => zb y m (8 * k + u)) t) (y q) (8 * t) hP (by omega)
        have wq : IntKind.u64.wrap ((y q : Nat) : Int) = ((y q : Nat) : Int) := by have := hy q; rw [IntKind.wrap_u64]; omega
        have hcq := hcw (pl y m x n k t) q (by omega)
        simp only [ep]
        refine Wc_seq_k fun K hK => ?_
        refine Wc_block ?_
        refine Wc_seq_k fun K hK => ?_
        refine Wc_draw [] [0, 0, 0, 1, 0, 0, 1, 0, 0, 0, 0, 1, 0, 0, 0, 0, 0, 2] rfl mixed (by kernel_rfl) ?_
        simp only [true_and, vc_nil, ↓vc_move, ↓vc_assign, ↓vc_pick, ↓vc_nilCheck, ↓vc_bin, ↓vc_un, ↓vc_conv, ↓vc_extract, ↓vc_fieldAddr, ↓vc_len, ↓vc_cap, ↓vc_indexAddr, ↓vc_slice0, ↓vc_sliceH, ↓vc_sliceL, ↓vc_sliceB, ↓vc_load2, ↓vc_load1, ↓vc_store2, ↓vc_store1, ↓vc_call2, ↓vc_callW, ↓vc_callQ, ↓vc_guard, ↓ev_tmp, ↓ev_const, ↓ev_func, ↓lk_cons, ↓putL_some, ↓putL_none, ↓List.headD_nil, ↓List.tail_nil, ↓List.headD_cons, ↓List.tail_cons, thn, enumL, ↓reduceIte, Nat.reduceLT, Nat.reduceLeDiff, Nat.reduceEqDiff, Nat.reduceAdd, Nat.reduceMul, Nat.reduceSub, Nat.zero_add, Nat.add_zero, Nat.mul_one, List.map_toArray, List.map_cons, List.map_nil, reduceCtorEq, Int.toNat_natCast, List.getElem?_toArray, List.getElem?_cons_zero, List.getElem?_cons_succ, Bool.not_true, Bool.not_false, bop_lss, bop_leq, bop_gtr, bop_geq, bop_eql, bop_neq, bop_add, bop_sub, bop_mul, bop_and, bop_or, bop_xor, bop_andNot, oc, List.cons_append, List.nil_append, foff108_0, one106, cel_row (hbr _), isl106, esz30, esz106, eq1, one102, one5, ikd5_102, cel_row (hall _), hcq, U_get (show k < 32 by omega), hpk, s1, o1, wq, sz102, hall, U_size]
        refine ⟨⟨by omega, by omega⟩, ⟨by omega, by omega⟩, ⟨by omega, by omega⟩, by omega, ?_⟩
        have ew : ∀ j, j < 32 → (if j = k then 2 ^ (8 * t) * y q + BN.numB (fun u => zb y m (8 * k + u)) t else pl y m x n k t j) = pl y m x n k (t + 1) j := by
          intro j _
          unfold pl
          by_cases h1 : j = k
          · rw [if_pos h1, h1, if_neg (by omega), if_pos ⟨rfl, hkn⟩, hP2]
          · rw [if_neg h1]
            by_cases h2 : j < k
            · rw [if_pos h2, if_pos h2]
            · rw [if_neg h2, if_neg h2, if_neg (by omega), if_neg (by omega)]
        rw [U_set, U_congr ew, hset_hset]
        (refine hK _ _ ?_; clear hK; try clear K)
        refine Wc_plain [] rfl ?_
        simp only [true_and, vc_nil, ↓vc_move, ↓vc_assign, ↓vc_pick, ↓vc_nilCheck, ↓vc_bin, ↓vc_un, ↓vc_conv, ↓vc_extract, ↓vc_fieldAddr, ↓vc_len, ↓vc_cap, ↓vc_indexAddr, ↓vc_slice0, ↓vc_sliceH, ↓vc_sliceL, ↓vc_sliceB, ↓vc_load2, ↓vc_load1, ↓vc_store2, ↓vc_store1, ↓vc_call2, ↓vc_callW, ↓vc_callQ, ↓vc_guard, ↓ev_tmp, ↓ev_const, ↓ev_func, ↓lk_cons, ↓putL_some, ↓putL_none, ↓List.headD_nil, ↓List.tail_nil, ↓List.headD_cons, ↓List.tail_cons, thn, enumL, ↓reduceIte, Nat.reduceLT, Nat.reduceLeDiff, Nat.reduceEqDiff, Nat.reduceAdd, Nat.reduceMul, Nat.reduceSub, Nat.zero_add, Nat.add_zero, Nat.mul_one, List.map_toArray, List.map_cons, List.map_nil, reduceCtorEq, Int.toNat_natCast, List.getElem?_toArray, List.getElem?_cons_zero, List.getElem?_cons_succ, Bool.not_true, Bool.not_false, bop_lss, bop_leq, bop_gtr, bop_geq, bop_eql, bop_neq, bop_add, bop_sub, bop_mul, bop_and, bop_or, bop_xor, bop_andNot, oc, List.cons_append, List.nil_append, eq1]
        (refine hK _ _ ?_; clear hK; try clear K)
        refine Wc_plain [] rfl ?_
        simp only [true_and, vc_nil, ↓vc_move, ↓vc_assign, ↓vc_pick, ↓vc_nilCheck, ↓vc_bin, ↓vc_un, ↓vc_conv, ↓vc_extract, ↓vc_fieldAddr, ↓vc_len, ↓vc_cap, ↓vc_indexAddr, ↓vc_slice0, ↓vc_sliceH, ↓vc_sliceL, ↓vc_sliceB, ↓vc_load2, ↓vc_load1, ↓vc_store2, ↓vc_store1, ↓vc_call2, ↓vc_callW, ↓vc_callQ, ↓vc_guard, ↓ev_tmp, ↓ev_const, ↓ev_func, ↓lk_cons, ↓putL_some, ↓putL_none, ↓List.headD_nil, ↓List.tail_nil, ↓List.headD_cons, ↓List.tail_cons, thn, enumL, ↓reduceIte, Nat.reduceLT, Nat.reduceLeDiff, Nat.reduceEqDiff, Nat.reduceAdd, Nat.reduceMul, Nat.reduceSub, Nat.zero_add, Nat.add_zero, Nat.mul_one, List.map_toArray, List.map_cons, List.map_nil, reduceCtorEq, Int.toNat_natCast, List.getElem?_toArray, List.getElem?_cons_zero, List.getElem?_cons_succ, Bool.not_true, Bool.not_false, bop_lss, bop_leq, bop_gtr, bop_geq, bop_eql, bop_neq, bop_add, bop_sub, bop_mul, bop_and, bop_or, bop_xor, bop_andNot, oc, List.cons_append, List.nil_append, et1, inB]
        refine ⟨t + 1, ⟨by omega, by omega⟩, by omega, ?_, rfl⟩
        simp only [chk, ↓lk_cons, ↓reduceIte, Nat.reduceEqDiff, List.cons_append, List.nil_append, cast_succ, and_self]
        exact ⟨trivial, trivial, by congr 1; omega, trivial⟩
      · have d2 : decide ((0 : Int) < (m : Int) - 8 * k - t) = false := decide_eq_false (by omega)
        simp only [true_and, vc_nil, ↓vc_move, ↓vc_assign, ↓vc_pick, ↓vc_nilCheck, ↓vc_bin, ↓vc_un, ↓vc_conv, ↓vc_extract, ↓vc_fieldAddr, ↓vc_len, ↓vc_cap, ↓vc_indexAddr, ↓vc_slice0, ↓vc_sliceH, ↓vc_sliceL, ↓vc_sliceB, ↓vc_load2, ↓vc_load1, ↓vc_store2, ↓vc_store1, ↓vc_call2, ↓vc_callW, ↓vc_callQ, ↓vc_guard, ↓ev_tmp, ↓ev_const, ↓ev_func, ↓lk_cons, ↓putL_some, ↓putL_none, ↓List.headD_nil, ↓List.tail_nil, ↓List.headD_cons, ↓List.tail_cons, thn, enumL, ↓reduceIte, Nat.reduceLT, Nat.reduceLeDiff, Nat.reduceEqDiff, Nat.reduceAdd, Nat.reduceMul, Nat.reduceSub, Nat.zero_add, Nat.add_zero, Nat.mul_one, List.map_toArray, List.map_cons, List.map_nil, reduceCtorEq, Int.toNat_natCast, List.getElem?_toArray, List.getElem?_cons_zero, List.getElem?_cons_succ, Bool.not_true, Bool.not_false, bop_lss, bop_leq, bop_gtr, bop_geq, bop_eql, bop_neq, bop_add, bop_sub, bop_mul, bop_and, bop_or, bop_xor, bop_andNot, oc, List.cons_append, List.nil_append, foff108_0, one106, cel_row (hbr _), isl106, Int.reduceLT, Int.reduceToNat, t1, d1, d2, h3976, h4876]
        (refine hK _ _ ?_; clear hK; try clear K)
        refine Wc_cond (t := false) rfl (fun ht => by cases ht) (fun _ => ?_)
        refine Wc_exit ?_
        simp only [thn, inB, ↓reduceIte]
        exact fin2 _ t (by simp only [lk_cons, ↓reduceIte, Nat.reduceEqDiff, List.cons_append]; congr 1; omega) rfl ht (by omega)
    · have d1 : decide ((k : Int) < (n : Int)) = false := decide_eq_false (by omega)
      simp only [true_and, vc_nil, ↓vc_move, ↓vc_assign, ↓vc_pick, ↓vc_nilCheck, ↓vc_bin, ↓vc_un, ↓vc_conv, ↓vc_extract, ↓vc_fieldAddr, ↓vc_len, ↓vc_cap, ↓vc_indexAddr, ↓vc_slice0, ↓vc_sliceH, ↓vc_sliceL, ↓vc_sliceB, ↓vc_load2, ↓vc_load1, ↓vc_store2, ↓vc_store1, ↓vc_call2, ↓vc_callW, ↓vc_callQ, ↓vc_guard, ↓ev_tmp, ↓ev_const, ↓ev_func, ↓lk_cons, ↓putL_some, ↓putL_none, ↓List.headD_nil, ↓List.tail_nil, ↓List.headD_cons, ↓List.tail_cons, thn, enumL, ↓reduceIte, Nat.reduceLT, Nat.reduceLeDiff, Nat.reduceEqDiff, Nat.reduceAdd, Nat.reduceMul, Nat.reduceSub, Nat.zero_add, Nat.add_zero, Nat.mul_one, List.map_toArray, List.map_cons, List.map_nil, reduceCtorEq, Int.toNat_natCast, List.getElem?_toArray, List.getElem?_cons_zero, List.getElem?_cons_succ, Bool.not_true, Bool.not_false, bop_lss, bop_leq, bop_gtr, bop_geq, bop_eql, bop_neq, bop_add, bop_sub, bop_mul, bop_and, bop_or, bop_xor, bop_andNot, oc, List.cons_append, List.nil_append, foff108_0, one106, cel_row (hbr _), isl106, Int.reduceLT, Int.reduceToNat, t1, d1, h3976, h4876]
      (refine hK _ _ ?_; clear hK; try clear K)
      refine Wc_cond (t := false) rfl (fun ht => by cases ht) (fun _ => ?_)
      refine Wc_exit ?_
      simp only [thn, inB, ↓reduceIte]
      exact fin2 _ t (by simp only [lk_cons, ↓reduceIte, Nat.reduceEqDiff, List.cons_append]; congr 1; omega) rfl ht (by omega)
  refine Wc_block ?_
  refine Wc_rounds (α := Nat) (fun k => [(6, .int .i64 k), (5, .int .i64 ((m : Int) - 8 * k)), (0, .pointer (some ⟨b, 0, none⟩)), (1, .slice (some ⟨bb, off, none⟩) m c), (4, .nilIface)])
    (fun k => hset h l (U (fun j => if j < k then BN.lw (zb y m) j else x j) 32) 102) (fun k => k ≤ n ∧ 8 * k ≤ m) (fun k => n - k) 0 ⟨rfl, by simp [lk], rfl, rfl, rfl, trivial⟩ ?_ ⟨Nat.zero_le _, by omega⟩ ?_
  · simp only [Nat.not_lt_zero, if_false]; exact (hset_self e.hl).symm
  rintro k D ⟨hk, hkm⟩
  refine Wc_seq_k fun K hK => ?_
  refine Wc_seq_k fun K hK => ?_
  refine Wc_plain [(7, .int .i64 17)] rfl ?_
  by_cases hkn : k < n
  · have d1 : decide ((k : Int) < (n : Int)) = true := decide_eq_true (by omega)
    by_cases h8 : 8 * k + 8 ≤ m
    · have d2 : decide ((8 : Int) ≤ (m : Int) - 8 * k) = true := decide_eq_true (by omega)
      have hw1 : IntKind.i64.wrap ((m : Int) - 8 * k - 8) = (m : Int) - 8 * ((k : Int) + 1) := by rw [wrap_i64_id (by omega) (by omega)]; omega
      simp only [true_and, vc_nil, ↓vc_move, ↓vc_assign, ↓vc_pick, ↓vc_nilCheck, ↓vc_bin, ↓vc_un, ↓vc_conv, ↓vc_extract, ↓vc_fieldAddr, ↓vc_len, ↓vc_cap, ↓vc_indexAddr, ↓vc_slice0, ↓vc_sliceH, ↓vc_sliceL, ↓vc_sliceB, ↓vc_load2, ↓vc_load1, ↓vc_store2, ↓vc_store1, ↓vc_call2, ↓vc_callW, ↓vc_callQ, ↓vc_guard, ↓ev_tmp, ↓ev_const, ↓ev_func, ↓lk_cons, ↓putL_some, ↓putL_none, ↓List.headD_nil, ↓List.tail_nil, ↓List.headD_cons, ↓List.tail_cons, thn, enumL, ↓reduceIte, Nat.reduceLT, Nat.reduceLeDiff, Nat.reduceEqDiff, Nat.reduceAdd, Nat.reduceMul, Nat.reduceSub, Nat.zero_add, Nat.add_zero, Nat.mul_one, List.map_toArray, List.map_cons, List.map_nil, reduceCtorEq, Int.toNat_natCast, List.getElem?_toArray, List.getElem?_cons_zero, List.getElem?_cons_succ, Bool.not_true, Bool.not_false, bop_lss, bop_leq, bop_gtr, bop_geq, bop_eql, bop_neq, bop_add, bop_sub, bop_mul, bop_and, bop_or, bop_xor, bop_andNot, oc, List.cons_append, List.nil_append, foff108_0, one106, cel_row (hbr _), isl106, Int.reduceLT, Int.reduceToNat, d1, d2, h1776]
      (refine hK _ _ ?_; clear hK; try clear K)
      refine Wc_cond (t := true) rfl (fun _ => ?_) (fun hf => by cases hf)
      refine Wc_skip ?_
      (refine hK _ _ ?_; clear hK; try clear K)
      obtain ⟨q, hq⟩ : ∃ q, m = 8 * k + 8 + q := ⟨m - 8 * k - 8, by omega⟩
      have ep : (m : Int) - 8 * k = ((q + 8 : Nat) : Int) := by omega
      have eq1 : IntKind.i64.wrap (((q + 8 : Nat) : Int) - 8) = (q : Int) := by rw [wrap_i64_id (by omega) (by omega)]; omega
      have ek1 : IntKind.i64.wrap ((k : Int) + 1) = (k : Int) + 1 := wrap_i64_id (by omega) (by omega)
      have hbe := fun w => bigEndian_inv w0 (h := hset h l (U w 32) 102) (bb := bb) (off := off + q) (n := 8) (c := c - q) (y := fun j => y (q + j)) (Nat.le_refl _) (by omega)
        (fun j hj => by rw [Nat.add_assoc]; exact hcw w (q + j) (by omega)) (fun j => hy _)
      simp only [ep]
      refine Wc_block ?_
      refine Wc_seq_k fun K hK => ?_
      refine Wc_draw [] [0, 0, 0, 1, 0, 0, 0, 0, 0, 0, 1, 0, 2] rfl mixed (by kernel_rfl) ?_
      have hcq : ¬ c = q := by omega
      have ew : ∀ j, j < 32 → (if j = k then be8 (fun j => y (q + j)) else if j < k then BN.lw (zb y m) j else x j) = if j < k + 1 then BN.lw (zb y m) j else x j := by
        intro j hj
        by_cases h1 : j = k
        · rw [if_pos h1, if_pos (by omega), h1]
          exact numB8 (zb y m) k (fun j => y (q + j)) (fun u hu => by rw [zb_in (by omega)]; congr 1; omega)
        · rw [if_neg h1]
          by_cases h2 : j < k
          · rw [if_pos h2, if_pos (by omega)]
          · rw [if_neg h2, if_neg (by omega)]
      simp only [true_and, vc_nil, ↓vc_move, ↓vc_assign, ↓vc_pick, ↓vc_nilCheck, ↓vc_bin, ↓vc_un, ↓vc_conv, ↓vc_extract, ↓vc_fieldAddr, ↓vc_len, ↓vc_cap, ↓vc_indexAddr, ↓vc_slice0, ↓vc_sliceH, ↓vc_sliceL, ↓vc_sliceB, ↓vc_load2, ↓vc_load1, ↓vc_store2, ↓vc_store1, ↓vc_call2, ↓vc_callW, ↓vc_callQ, ↓vc_guard, ↓ev_tmp, ↓ev_const, ↓ev_func, ↓lk_cons, ↓putL_some, ↓putL_none, ↓List.headD_nil, ↓List.tail_nil, ↓List.headD_cons, ↓List.tail_cons, thn, enumL, ↓reduceIte, Nat.reduceLT, Nat.reduceLeDiff, Nat.reduceEqDiff, Nat.reduceAdd, Nat.reduceMul, Nat.reduceSub, Nat.zero_add, Nat.add_zero, Nat.mul_one, List.map_toArray, List.map_cons, List.map_nil, reduceCtorEq, Int.toNat_natCast, List.getElem?_toArray, List.getElem?_cons_zero, List.getElem?_cons_succ, Bool.not_true, Bool.not_false, bop_lss, bop_leq, bop_gtr, bop_geq, bop_eql, bop_neq, bop_add, bop_sub, bop_mul, bop_and, bop_or, bop_xor, bop_andNot, oc, List.cons_append, List.nil_append, foff108_0, one106, cel_row (hbr _), isl106, esz30, esz106, eq1, hcq, Nat.add_sub_cancel_left]
      refine ⟨⟨by omega, by omega, by omega⟩, _, ⟨hbe _⟩, ⟨by omega, by omega⟩, sz102, ?_⟩
      simp only [hall, U_size, true_and]
      refine ⟨by omega, ?_⟩
      rw [U_set, U_congr ew, hset_hset]
      (refine hK _ _ ?_; clear hK; try clear K)
      refine Wc_seq_k fun K hK => ?_
      refine Wc_plain [] rfl ?_
      simp only [true_and, vc_nil, ↓vc_move, ↓vc_assign, ↓vc_pick, ↓vc_nilCheck, ↓vc_bin, ↓vc_un, ↓vc_conv, ↓vc_extract, ↓vc_fieldAddr, ↓vc_len, ↓vc_cap, ↓vc_indexAddr, ↓vc_slice0, ↓vc_sliceH, ↓vc_sliceL, ↓vc_sliceB, ↓vc_load2, ↓vc_load1, ↓vc_store2, ↓vc_store1, ↓vc_call2, ↓vc_callW, ↓vc_callQ, ↓vc_guard, ↓ev_tmp, ↓ev_const, ↓ev_func, ↓lk_cons, ↓putL_some, ↓putL_none, ↓List.headD_nil, ↓List.tail_nil, ↓List.headD_cons, ↓List.tail_cons, thn, enumL, ↓reduceIte, Nat.reduceLT, Nat.reduceLeDiff, Nat.reduceEqDiff, Nat.reduceAdd, Nat.reduceMul, Nat.reduceSub, Nat.zero_add, Nat.add_zero, Nat.mul_one, List.map_toArray, List.map_cons, List.map_nil, reduceCtorEq, Int.toNat_natCast, List.getElem?_toArray, List.getElem?_cons_zero, List.getElem?_cons_succ, Bool.not_true, Bool.not_false, bop_lss, bop_leq, bop_gtr, bop_geq, bop_eql, bop_neq, bop_add, bop_sub, bop_mul, bop_and, bop_or, bop_xor, bop_andNot, oc, List.cons_append, List.nil_append, eq1]
      (refine hK _ _ ?_; clear hK; try clear K)
      refine Wc_plain [] rfl ?_
      simp only [true_and, vc_nil, ↓vc_move, ↓vc_assign, ↓vc_pick, ↓vc_nilCheck, ↓vc_bin, ↓vc_un, ↓vc_conv, ↓vc_extract, ↓vc_fieldAddr, ↓vc_len, ↓vc_cap, ↓vc_indexAddr, ↓vc_slice0, ↓vc_sliceH, ↓vc_sliceL, ↓vc_sliceB, ↓vc_load2, ↓vc_load1, ↓vc_store2, ↓vc_store1, ↓vc_call2, ↓vc_callW, ↓vc_callQ, ↓vc_guard, ↓ev_tmp, ↓ev_const, ↓ev_func, ↓lk_cons, ↓putL_some, ↓putL_none, ↓List.headD_nil, ↓List.tail_nil, ↓List.headD_cons, ↓List.tail_cons, thn, enumL, ↓reduceIte, Nat.reduceLT, Nat.reduceLeDiff, Nat.reduceEqDiff, Nat.reduceAdd, Nat.reduceMul, Nat.reduceSub, Nat.zero_add, Nat.add_zero, Nat.mul_one, List.map_toArray, List.map_cons, List.map_nil, reduceCtorEq, Int.toNat_natCast, List.getElem?_toArray, List.getElem?_cons_zero, List.getElem?_cons_succ, Bool.not_true, Bool.not_false, bop_lss, bop_leq, bop_gtr, bop_geq, bop_eql, bop_neq, bop_add, bop_sub, bop_mul, bop_and, bop_or, bop_xor, bop_andNot, oc, List.cons_append, List.nil_append, ek1, inB]
      refine ⟨k + 1, ⟨by omega, by omega⟩, by omega, ?_, rfl⟩
      simp only [chk, ↓lk_cons, ↓reduceIte, Nat.reduceEqDiff, List.cons_append, List.nil_append, cast_succ, and_self]
      exact ⟨trivial, by congr 1; omega, trivial⟩
    · have d2 : decide ((8 : Int) ≤ (m : Int) - 8 * k) = false := decide_eq_false (by omega)
      simp only [true_and, vc_nil, ↓vc_move, ↓vc_assign, ↓vc_pick, ↓vc_nilCheck, ↓vc_bin, ↓vc_un, ↓vc_conv, ↓vc_extract, ↓vc_fieldAddr, ↓vc_len, ↓vc_cap, ↓vc_indexAddr, ↓vc_slice0, ↓vc_sliceH, ↓vc_sliceL, ↓vc_sliceB, ↓vc_load2, ↓vc_load1, ↓vc_store2, ↓vc_store1, ↓vc_call2, ↓vc_callW, ↓vc_callQ, ↓vc_guard, ↓ev_tmp, ↓ev_const, ↓ev_func, ↓lk_cons, ↓putL_some, ↓putL_none, ↓List.headD_nil, ↓List.tail_nil, ↓List.headD_cons, ↓List.tail_cons, thn, enumL, ↓reduceIte, Nat.reduceLT, Nat.reduceLeDiff, Nat.reduceEqDiff, Nat.reduceAdd, Nat.reduceMul, Nat.reduceSub, Nat.zero_add, Nat.add_zero, Nat.mul_one, List.map_toArray, List.map_cons, List.map_nil, reduceCtorEq, Int.toNat_natCast, List.getElem?_toArray, List.getElem?_cons_zero, List.getElem?_cons_succ, Bool.not_true, Bool.not_false, bop_lss, bop_leq, bop_gtr, bop_geq, bop_eql, bop_neq, bop_add, bop_sub, bop_mul, bop_and, bop_or, bop_xor, bop_andNot, oc, List.cons_append, List.nil_append, foff108_0, one106, cel_row (hbr _), isl106, Int.reduceLT, Int.reduceToNat, d1, d2, h1776]
      (refine hK _ _ ?_; clear hK; try clear K)
      refine Wc_cond (t := false) rfl (fun ht => by cases ht) (fun _ => ?_)
      refine Wc_exit ?_
      simp only [thn, inB, ↓reduceIte]
      exact fin1 k D _ _ _ _ _ hk hkm (by omega)
  · have d1 : decide ((k : Int) < (n : Int)) = false := decide_eq_false (by omega)
    simp only [true_and, vc_nil, ↓vc_move, ↓vc_assign, ↓vc_pick, ↓vc_nilCheck, ↓vc_bin, ↓vc_un, ↓vc_conv, ↓vc_extract, ↓vc_fieldAddr, ↓vc_len, ↓vc_cap, ↓vc_indexAddr, ↓vc_slice0, ↓vc_sliceH, ↓vc_sliceL, ↓vc_sliceB, ↓vc_load2, ↓vc_load1, ↓vc_store2, ↓vc_store1, ↓vc_call2, ↓vc_callW, ↓vc_callQ, ↓vc_guard, ↓ev_tmp, ↓ev_const, ↓ev_func, ↓lk_cons, ↓putL_some, ↓putL_none, ↓List.headD_nil, ↓List.tail_nil, ↓List.headD_cons, ↓List.tail_cons, thn, enumL, ↓reduceIte, Nat.reduceLT, Nat.reduceLeDiff, Nat.reduceEqDiff, Nat.reduceAdd, Nat.reduceMul, Nat.reduceSub, Nat.zero_add, Nat.add_zero, Nat.mul_one, List.map_toArray, List.map_cons, List.map_nil, reduceCtorEq, Int.toNat_natCast, List.getElem?_toArray, List.getElem?_cons_zero, List.getElem?_cons_succ, Bool.not_true, Bool.not_false, bop_lss, bop_leq, bop_gtr, bop_geq, bop_eql, bop_neq, bop_add, bop_sub, bop_mul, bop_and, bop_or, bop_xor, bop_andNot, oc, List.cons_append, List.nil_append, foff108_0, one106, cel_row (hbr _), isl106, Int.reduceLT, Int.reduceToNat, d1, h1776]
    (refine hK _ _ ?_; clear hK; try clear K)
    refine Wc_cond (t := false) rfl (fun ht => by cases ht) (fun _ => ?_)
    refine Wc_exit ?_
    simp only [thn, inB, ↓reduceIte]
    exact fin1 k D _ _ _ _ _ hk hkm (by omega)
end Go.Proofs.Ytfakfllmbfjofaa
