/- bigmod: maybeSubtractModulus, Add, Sub: the limbs that they leave. -/
import Derived.Test.YtfakfllmbfjofaaW4
open Go Go.Fl
namespace Go.Proofs.Ytfakfllmbfjofaa
set_option linter.unusedSimpArgs false
set_option linter.unusedVariables false
set_option maxRecDepth 100000

/-- the bit that says whether to keep the difference -/
def keepB (always : Nat) (x N : Nat → Nat) (n : Nat) : Nat := if BN.borrow x N 0 n = 0 ∨ always = 1 then 1 else 0
/-- what maybeSubtractModulus leaves in limb j -/
def msub (always : Nat) (x N : Nat → Nat) (n j : Nat) : Nat := if j < n then (if keepB always x N n = 1 then BN.diff x N 0 j else x j) else x j

theorem keep_bits (a c : Nat) (ha : a ≤ 1) (hc : c ≤ 1) : bits .or .u64 ((1 - c : Nat) : Int) (a : Int) = ((if c = 0 ∨ a = 1 then 1 else 0 : Nat) : Int) := by
  have h1 : a = 0 ∨ a = 1 := by omega
  have h2 : c = 0 ∨ c = 1 := by omega
  rcases h1 with rfl | rfl <;> rcases h2 with rfl | rfl <;> decide

theorem fresh2 {h : Hp} {B : List Nat} (hB : ∀ i, i ∈ B → i < h.size) : h.size + 1 ∉ B ∧ h.size ∉ B := ⟨fun hm => by have := hB _ hm; omega, fun hm => by have := hB _ hm; omega⟩

/-- t, a new number, set to x -/
theorem newset_inv (w0 : World) {h : Hp} {b l n : Nat} {x : Nat → Nat} (e : NA h b l n x) {R : Value → Value → Hp → Prop}
    (hR : ∀ h', NA h' (h.size + 1) h.size n (fun j => if j < n then x j else 0) → Ch [] h h' → R (.pointer (some ⟨h.size + 1, 0, none⟩)) (.pointer (some ⟨h.size + 1, 0, none⟩)) h') :
    Inv Try.prog w0 67 #[] h fun v h' => Inv Try.prog w0 77 #[v, .pointer (some ⟨b, 0, none⟩)] h' (R v) := by
  refine (NewNat_inv w0 h).mono ?_
  rintro v h1 ⟨rfl, e1, k1⟩
  have hb := e.lt1
  have hl := e.lt2
  refine (set_inv w0 e1 (e.ch k1 (by simp) (by simp)) (by omega) (by omega) (by omega) (by omega)).mono ?_
  rintro v h2 ⟨rfl, e2, k2⟩
  refine hR h2 (e2.xeq (fun j _ => ?_) (fun j => ?_)) (((k1.sub (by simp)).trans k2).new (fun i hi => .inr (by simp at hi; omega)))
  · by_cases hj : j < n
    · rw [if_pos hj, if_pos hj]
    · rw [if_neg hj, if_neg hj]; split <;> rfl
  · split
    · exact e.hx j
    · omega

theorem borrow_congr {x x' y : Nat → Nat} {c : Nat} : ∀ k, (∀ j, j < k → x j = x' j) → BN.borrow x y c k = BN.borrow x' y c k
  | 0, _ => rfl
  | k + 1, e => by rw [BN.borrow, BN.borrow, e k (by omega), borrow_congr k fun j hj => e j (by omega)]
theorem diff_congr {x x' y : Nat → Nat} {c k : Nat} (e : ∀ j, j ≤ k → x j = x' j) : BN.diff x y c k = BN.diff x' y c k := by
  rw [BN.diff, BN.diff, e k (Nat.le_refl _), borrow_congr k fun j hj => e j (by omega)]
theorem carry_congr {x x' y : Nat → Nat} {c : Nat} : ∀ k, (∀ j, j < k → x j = x' j) → BN.carry x y c k = BN.carry x' y c k
  | 0, _ => rfl
  | k + 1, e => by rw [BN.carry, BN.carry, e k (by omega), carry_congr k fun j hj => e j (by omega)]
theorem sum_congr {x x' y : Nat → Nat} {c k : Nat} (e : ∀ j, j ≤ k → x j = x' j) : BN.sum x y c k = BN.sum x' y c k := by
  rw [BN.sum, BN.sum, e k (Nat.le_refl _), carry_congr k fun j hj => e j (by omega)]

theorem ite_lt {p : Prop} [Decidable p] {a b M : Nat} (ha : a < M) (hb : b < M) : (if p then a else b) < M := by split <;> assumption

theorem maybeSub_inv (w0 : World) {h : Hp} {b l n bm bn ln : Nat} {x N : Nat → Nat} {c1 c2 c3 : Value} {always : Nat} (e : NA h b l n x) (em : MA h bm bn ln n N c1 c2 c3) (ha : always ≤ 1)
    (d1 : l ≠ bm) (d2 : l ≠ bn) (d3 : l ≠ ln) :
    Inv Try.prog w0 108 #[.pointer (some ⟨b, 0, none⟩), .int .u64 always, .pointer (some ⟨bm, 0, none⟩)] h fun v h' =>
      v = .tuple #[] ∧ NA h' b l n (msub always x N n) ∧ Ch [l] h h' := by
  have q1 := e.lt1
  have q2 := e.lt2
  have q3 := em.hn.lt1
  have q4 := em.hn.lt2
  have q5 := row_lt em.hm
  have hn := e.hn
  refine Inv_of_Wc (args := [_, _, _]) Try.func108 rfl Try.ntmps108 (Nat.le_of_ble_eq_true rfl) hb108 ?_
  refine Wc_seq_k fun K hK => ?_
  refine Wc_plain [] rfl ?_
  simp only [true_and, vc_nil, ↓vc_move, ↓vc_assign, ↓vc_pick, ↓vc_nilCheck, ↓vc_bin, ↓vc_un, ↓vc_conv, ↓vc_extract, ↓vc_fieldAddr, ↓vc_len, ↓vc_cap, ↓vc_indexAddr, ↓vc_slice0, ↓vc_sliceH, ↓vc_sliceL, ↓vc_sliceB, ↓vc_load2, ↓vc_load1, ↓vc_store2, ↓vc_store1, ↓vc_call2, ↓vc_callW, ↓vc_callQ, ↓vc_guard, ↓ev_tmp, ↓ev_const, ↓ev_func, ↓lk_cons, ↓putL_some, ↓putL_none, ↓List.headD_nil, ↓List.tail_nil, ↓List.headD_cons, ↓List.tail_cons, thn, enumL, ↓reduceIte, Nat.reduceLT, Nat.reduceLeDiff, Nat.reduceEqDiff, Nat.reduceAdd, Nat.reduceMul, Nat.reduceSub, Nat.zero_add, Nat.add_zero, Nat.mul_one, List.map_toArray, List.map_cons, List.map_nil, reduceCtorEq, Int.toNat_natCast, List.getElem?_toArray, List.getElem?_cons_zero, List.getElem?_cons_succ, Bool.not_true, Bool.not_false, bop_lss, bop_leq, bop_gtr, bop_geq, bop_eql, bop_neq, bop_add, bop_sub, bop_mul, bop_and, bop_or, bop_xor, bop_andNot, oc, List.cons_append, List.nil_append]
  refine newset_inv w0 e (R := fun v v_1 h' => K [(6, v_1), (11, v_1), (10, .pointer (some ⟨b, 0, none⟩)), (9, v), (0, .pointer (some ⟨b, 0, none⟩)), (1, .int .u64 always), (2, .pointer (some ⟨bm, 0, none⟩))] h') fun h1 e1 k1 => ?_
  have em1 := em.ch k1 (by simp) (by simp) (by simp)
  have e1x := e.ch k1 (by simp) (by simp)
  (refine hK _ _ ?_; clear hK; try clear K)
  refine Wc_seq_k fun K hK => ?_
  refine Wc_plain [] rfl ?_
  simp only [true_and, vc_nil, ↓vc_move, ↓vc_assign, ↓vc_pick, ↓vc_nilCheck, ↓vc_bin, ↓vc_un, ↓vc_conv, ↓vc_extract, ↓vc_fieldAddr, ↓vc_len, ↓vc_cap, ↓vc_indexAddr, ↓vc_slice0, ↓vc_sliceH, ↓vc_sliceL, ↓vc_sliceB, ↓vc_load2, ↓vc_load1, ↓vc_store2, ↓vc_store1, ↓vc_call2, ↓vc_callW, ↓vc_callQ, ↓vc_guard, ↓ev_tmp, ↓ev_const, ↓ev_func, ↓lk_cons, ↓putL_some, ↓putL_none, ↓List.headD_nil, ↓List.tail_nil, ↓List.headD_cons, ↓List.tail_cons, thn, enumL, ↓reduceIte, Nat.reduceLT, Nat.reduceLeDiff, Nat.reduceEqDiff, Nat.reduceAdd, Nat.reduceMul, Nat.reduceSub, Nat.zero_add, Nat.add_zero, Nat.mul_one, List.map_toArray, List.map_cons, List.map_nil, reduceCtorEq, Int.toNat_natCast, List.getElem?_toArray, List.getElem?_cons_zero, List.getElem?_cons_succ, Bool.not_true, Bool.not_false, bop_lss, bop_leq, bop_gtr, bop_geq, bop_eql, bop_neq, bop_add, bop_sub, bop_mul, bop_and, bop_or, bop_xor, bop_andNot, oc, List.cons_append, List.nil_append, foff104_0, one73, cel_row em1.hm]
  refine (sub_inv w0 e1 em1.hn).mono ?_
  rintro v h2 ⟨rfl, rfl⟩
  have hb1 := BN.borrow_le (x := fun j => if j < n then x j else 0) (y := N) (c := 0) (by omega) n
  have hbc : BN.borrow (fun j => if j < n then x j else 0) N 0 n = BN.borrow x N 0 n := borrow_congr n fun j hj => if_pos hj
  have e2 := e1.put (fun j => if j < n then BN.diff (fun j => if j < n then x j else 0) N 0 j else if j < n then x j else 0) (fun j => by
    split
    · exact BN.diff_lt _ _ _ _
    · omega)
  have k2 : Ch [h.size] h (hset h1 h.size (U (fun j => if j < n then BN.diff (fun j => if j < n then x j else 0) N 0 j else if j < n then x j else 0) 32) 102) := (k1.sub (by simp)).trans (Ch.hset _ _ _ (by simp))
  have e2x := e.ch k2 (by simp; omega) (by simp; omega)
  (refine hK _ _ ?_; clear hK; try clear K)
  refine Wc_seq_k fun K hK => ?_
  refine Wc_plain [] rfl ?_
  simp only [true_and, vc_nil, ↓vc_move, ↓vc_assign, ↓vc_pick, ↓vc_nilCheck, ↓vc_bin, ↓vc_un, ↓vc_conv, ↓vc_extract, ↓vc_fieldAddr, ↓vc_len, ↓vc_cap, ↓vc_indexAddr, ↓vc_slice0, ↓vc_sliceH, ↓vc_sliceL, ↓vc_sliceB, ↓vc_load2, ↓vc_load1, ↓vc_store2, ↓vc_store1, ↓vc_call2, ↓vc_callW, ↓vc_callQ, ↓vc_guard, ↓ev_tmp, ↓ev_const, ↓ev_func, ↓lk_cons, ↓putL_some, ↓putL_none, ↓List.headD_nil, ↓List.tail_nil, ↓List.headD_cons, ↓List.tail_cons, thn, enumL, ↓reduceIte, Nat.reduceLT, Nat.reduceLeDiff, Nat.reduceEqDiff, Nat.reduceAdd, Nat.reduceMul, Nat.reduceSub, Nat.zero_add, Nat.add_zero, Nat.mul_one, List.map_toArray, List.map_cons, List.map_nil, reduceCtorEq, Int.toNat_natCast, List.getElem?_toArray, List.getElem?_cons_zero, List.getElem?_cons_succ, Bool.not_true, Bool.not_false, bop_lss, bop_leq, bop_gtr, bop_geq, bop_eql, bop_neq, bop_add, bop_sub, bop_mul, bop_and, bop_or, bop_xor, bop_andNot, oc, List.cons_append, List.nil_append]
  refine (not_q w0 _ _ hb1).inv ?_
  simp only [true_and, vc_nil, ↓vc_move, ↓vc_assign, ↓vc_pick, ↓vc_nilCheck, ↓vc_bin, ↓vc_un, ↓vc_conv, ↓vc_extract, ↓vc_fieldAddr, ↓vc_len, ↓vc_cap, ↓vc_indexAddr, ↓vc_slice0, ↓vc_sliceH, ↓vc_sliceL, ↓vc_sliceB, ↓vc_load2, ↓vc_load1, ↓vc_store2, ↓vc_store1, ↓vc_call2, ↓vc_callW, ↓vc_callQ, ↓vc_guard, ↓ev_tmp, ↓ev_const, ↓ev_func, ↓lk_cons, ↓putL_some, ↓putL_none, ↓List.headD_nil, ↓List.tail_nil, ↓List.headD_cons, ↓List.tail_cons, thn, enumL, ↓reduceIte, Nat.reduceLT, Nat.reduceLeDiff, Nat.reduceEqDiff, Nat.reduceAdd, Nat.reduceMul, Nat.reduceSub, Nat.zero_add, Nat.add_zero, Nat.mul_one, List.map_toArray, List.map_cons, List.map_nil, reduceCtorEq, Int.toNat_natCast, List.getElem?_toArray, List.getElem?_cons_zero, List.getElem?_cons_succ, Bool.not_true, Bool.not_false, bop_lss, bop_leq, bop_gtr, bop_geq, bop_eql, bop_neq, bop_add, bop_sub, bop_mul, bop_and, bop_or, bop_xor, bop_andNot, oc, List.cons_append, List.nil_append, keep_bits _ _ ha hb1]
  (refine hK _ _ ?_; clear hK; try clear K)
  refine Wc_plain [] rfl ?_
  simp only [true_and, vc_nil, ↓vc_move, ↓vc_assign, ↓vc_pick, ↓vc_nilCheck, ↓vc_bin, ↓vc_un, ↓vc_conv, ↓vc_extract, ↓vc_fieldAddr, ↓vc_len, ↓vc_cap, ↓vc_indexAddr, ↓vc_slice0, ↓vc_sliceH, ↓vc_sliceL, ↓vc_sliceB, ↓vc_load2, ↓vc_load1, ↓vc_store2, ↓vc_store1, ↓vc_call2, ↓vc_callW, ↓vc_callQ, ↓vc_guard, ↓ev_tmp, ↓ev_const, ↓ev_func, ↓lk_cons, ↓putL_some, ↓putL_none, ↓List.headD_nil, ↓List.tail_nil, ↓List.headD_cons, ↓List.tail_cons, thn, enumL, ↓reduceIte, Nat.reduceLT, Nat.reduceLeDiff, Nat.reduceEqDiff, Nat.reduceAdd, Nat.reduceMul, Nat.reduceSub, Nat.zero_add, Nat.add_zero, Nat.mul_one, List.map_toArray, List.map_cons, List.map_nil, reduceCtorEq, Int.toNat_natCast, List.getElem?_toArray, List.getElem?_cons_zero, List.getElem?_cons_succ, Bool.not_true, Bool.not_false, bop_lss, bop_leq, bop_gtr, bop_geq, bop_eql, bop_neq, bop_add, bop_sub, bop_mul, bop_and, bop_or, bop_xor, bop_andNot, oc, List.cons_append, List.nil_append]
  refine (assign_inv w0 e2x e2 (on := if BN.borrow (fun j => if j < n then x j else 0) N 0 n = 0 ∨ always = 1 then 1 else 0) (by split <;> omega)).mono ?_
  rintro v h3 ⟨rfl, rfl⟩
  simp only [true_and, fin, resV, ↓ev_tmp, ↓lk_cons, ↓reduceIte, Nat.reduceLT, Nat.reduceEqDiff, List.cons_append, List.nil_append, res108]
  refine ⟨(e2x.put _ fun j => ?_).xeq (fun j hj => ?_) (fun j => ?_), ((k2.sub (by simp)).trans (Ch.hset (B := [h.size, l]) _ _ _ (by simp))).new (fun i hi => by simp at hi ⊢; omega)⟩
  · by_cases hjn : j < n
    · simp only [hjn, ↓reduceIte]; exact ite_lt (BN.diff_lt _ _ _ _) (e.hx j)
    · simp only [hjn, ↓reduceIte]; exact e.hx j
  · unfold msub keepB
    rw [hbc]
    by_cases hjn : j < n
    · simp only [hjn, ↓reduceIte]
      rw [diff_congr (x := fun j => if j < n then x j else 0) (x' := x) fun i hi => if_pos (by omega)]
    · simp only [hjn, ↓reduceIte]
  · exact ite_lt (ite_lt (BN.diff_lt _ _ _ _) (e.hx j)) (e.hx j)

/-- x + y, less the modulus where that is needed: its limbs -/
def addL (x y N : Nat → Nat) (n : Nat) : Nat → Nat := msub (BN.carry x y 0 n) (fun j => if j < n then BN.sum x y 0 j else x j) N n

theorem Add_inv (w0 : World) {h : Hp} {b l n bm bn ln b' l' n' : Nat} {x y N : Nat → Nat} {c1 c2 c3 : Value} (e : NA h b l n x) (ey : NA h b' l' n' y) (em : MA h bm bn ln n N c1 c2 c3)
    (d1 : l ≠ bm) (d2 : l ≠ bn) (d3 : l ≠ ln) :
    Inv Try.prog w0 129 #[.pointer (some ⟨b, 0, none⟩), .pointer (some ⟨b', 0, none⟩), .pointer (some ⟨bm, 0, none⟩)] h fun v h' =>
      v = .pointer (some ⟨b, 0, none⟩) ∧ NA h' b l n (addL x y N n) ∧ Ch [l] h h' := by
  have hc := BN.carry_le (x := x) (y := y) (c := 0) (by omega) n (fun j _ => e.hx j) (fun j _ => ey.hx j)
  refine Inv_of_Wc (args := [_, _, _]) Try.func129 rfl Try.ntmps129 (Nat.le_of_ble_eq_true rfl) hb129 ?_
  refine Wc_seq_k fun K hK => ?_
  refine Wc_plain [] rfl ?_
  simp only [true_and, vc_nil, ↓vc_move, ↓vc_assign, ↓vc_pick, ↓vc_nilCheck, ↓vc_bin, ↓vc_un, ↓vc_conv, ↓vc_extract, ↓vc_fieldAddr, ↓vc_len, ↓vc_cap, ↓vc_indexAddr, ↓vc_slice0, ↓vc_sliceH, ↓vc_sliceL, ↓vc_sliceB, ↓vc_load2, ↓vc_load1, ↓vc_store2, ↓vc_store1, ↓vc_call2, ↓vc_callW, ↓vc_callQ, ↓vc_guard, ↓ev_tmp, ↓ev_const, ↓ev_func, ↓lk_cons, ↓putL_some, ↓putL_none, ↓List.headD_nil, ↓List.tail_nil, ↓List.headD_cons, ↓List.tail_cons, thn, enumL, ↓reduceIte, Nat.reduceLT, Nat.reduceLeDiff, Nat.reduceEqDiff, Nat.reduceAdd, Nat.reduceMul, Nat.reduceSub, Nat.zero_add, Nat.add_zero, Nat.mul_one, List.map_toArray, List.map_cons, List.map_nil, reduceCtorEq, Int.toNat_natCast, List.getElem?_toArray, List.getElem?_cons_zero, List.getElem?_cons_succ, Bool.not_true, Bool.not_false, bop_lss, bop_leq, bop_gtr, bop_geq, bop_eql, bop_neq, bop_add, bop_sub, bop_mul, bop_and, bop_or, bop_xor, bop_andNot, oc, List.cons_append, List.nil_append]
  (refine hK _ _ ?_; clear hK; try clear K)
  refine Wc_seq_k fun K hK => ?_
  refine Wc_plain [] rfl ?_
  simp only [true_and, vc_nil, ↓vc_move, ↓vc_assign, ↓vc_pick, ↓vc_nilCheck, ↓vc_bin, ↓vc_un, ↓vc_conv, ↓vc_extract, ↓vc_fieldAddr, ↓vc_len, ↓vc_cap, ↓vc_indexAddr, ↓vc_slice0, ↓vc_sliceH, ↓vc_sliceL, ↓vc_sliceB, ↓vc_load2, ↓vc_load1, ↓vc_store2, ↓vc_store1, ↓vc_call2, ↓vc_callW, ↓vc_callQ, ↓vc_guard, ↓ev_tmp, ↓ev_const, ↓ev_func, ↓lk_cons, ↓putL_some, ↓putL_none, ↓List.headD_nil, ↓List.tail_nil, ↓List.headD_cons, ↓List.tail_cons, thn, enumL, ↓reduceIte, Nat.reduceLT, Nat.reduceLeDiff, Nat.reduceEqDiff, Nat.reduceAdd, Nat.reduceMul, Nat.reduceSub, Nat.zero_add, Nat.add_zero, Nat.mul_one, List.map_toArray, List.map_cons, List.map_nil, reduceCtorEq, Int.toNat_natCast, List.getElem?_toArray, List.getElem?_cons_zero, List.getElem?_cons_succ, Bool.not_true, Bool.not_false, bop_lss, bop_leq, bop_gtr, bop_geq, bop_eql, bop_neq, bop_add, bop_sub, bop_mul, bop_and, bop_or, bop_xor, bop_andNot, oc, List.cons_append, List.nil_append]
  refine (add_inv w0 e ey).mono ?_
  rintro v h1 ⟨rfl, rfl⟩
  have e1 := e.put (fun j => if j < n then BN.sum x y 0 j else x j) (fun j => by
    split
    · exact BN.sum_lt _ _ _ _
    · exact e.hx j)
  have k1 : Ch [l] h (hset h l (U (fun j => if j < n then BN.sum x y 0 j else x j) 32) 102) := Ch.hset _ _ _ (by simp)
  (refine hK _ _ ?_; clear hK; try clear K)
  refine Wc_seq_k fun K hK => ?_
  refine Wc_plain [] rfl ?_
  simp only [true_and, vc_nil, ↓vc_move, ↓vc_assign, ↓vc_pick, ↓vc_nilCheck, ↓vc_bin, ↓vc_un, ↓vc_conv, ↓vc_extract, ↓vc_fieldAddr, ↓vc_len, ↓vc_cap, ↓vc_indexAddr, ↓vc_slice0, ↓vc_sliceH, ↓vc_sliceL, ↓vc_sliceB, ↓vc_load2, ↓vc_load1, ↓vc_store2, ↓vc_store1, ↓vc_call2, ↓vc_callW, ↓vc_callQ, ↓vc_guard, ↓ev_tmp, ↓ev_const, ↓ev_func, ↓lk_cons, ↓putL_some, ↓putL_none, ↓List.headD_nil, ↓List.tail_nil, ↓List.headD_cons, ↓List.tail_cons, thn, enumL, ↓reduceIte, Nat.reduceLT, Nat.reduceLeDiff, Nat.reduceEqDiff, Nat.reduceAdd, Nat.reduceMul, Nat.reduceSub, Nat.zero_add, Nat.add_zero, Nat.mul_one, List.map_toArray, List.map_cons, List.map_nil, reduceCtorEq, Int.toNat_natCast, List.getElem?_toArray, List.getElem?_cons_zero, List.getElem?_cons_succ, Bool.not_true, Bool.not_false, bop_lss, bop_leq, bop_gtr, bop_geq, bop_eql, bop_neq, bop_add, bop_sub, bop_mul, bop_and, bop_or, bop_xor, bop_andNot, oc, List.cons_append, List.nil_append]
  refine (maybeSub_inv w0 e1 (em.ch k1 (by simp; omega) (by simp; omega) (by simp; omega)) hc d1 d2 d3).mono ?_
  rintro v h2 ⟨rfl, e2, k2⟩
  (refine hK _ _ ?_; clear hK; try clear K)
  refine Wc_seq_k fun K hK => ?_
  refine Wc_plain [] rfl ?_
  simp only [true_and, vc_nil, ↓vc_move, ↓vc_assign, ↓vc_pick, ↓vc_nilCheck, ↓vc_bin, ↓vc_un, ↓vc_conv, ↓vc_extract, ↓vc_fieldAddr, ↓vc_len, ↓vc_cap, ↓vc_indexAddr, ↓vc_slice0, ↓vc_sliceH, ↓vc_sliceL, ↓vc_sliceB, ↓vc_load2, ↓vc_load1, ↓vc_store2, ↓vc_store1, ↓vc_call2, ↓vc_callW, ↓vc_callQ, ↓vc_guard, ↓ev_tmp, ↓ev_const, ↓ev_func, ↓lk_cons, ↓putL_some, ↓putL_none, ↓List.headD_nil, ↓List.tail_nil, ↓List.headD_cons, ↓List.tail_cons, thn, enumL, ↓reduceIte, Nat.reduceLT, Nat.reduceLeDiff, Nat.reduceEqDiff, Nat.reduceAdd, Nat.reduceMul, Nat.reduceSub, Nat.zero_add, Nat.add_zero, Nat.mul_one, List.map_toArray, List.map_cons, List.map_nil, reduceCtorEq, Int.toNat_natCast, List.getElem?_toArray, List.getElem?_cons_zero, List.getElem?_cons_succ, Bool.not_true, Bool.not_false, bop_lss, bop_leq, bop_gtr, bop_geq, bop_eql, bop_neq, bop_add, bop_sub, bop_mul, bop_and, bop_or, bop_xor, bop_andNot, oc, List.cons_append, List.nil_append]
  (refine hK _ _ ?_; clear hK; try clear K)
  refine Wc_ret ?_
  simp only [true_and, fin, resV, ↓ev_tmp, ↓lk_cons, ↓reduceIte, Nat.reduceLT, Nat.reduceEqDiff, List.cons_append, List.nil_append, res129]
  exact ⟨e2, k1.trans k2⟩
end Go.Proofs.Ytfakfllmbfjofaa
