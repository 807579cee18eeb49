/- bigmod: setBytes of no bytes; SetOverflowingBytes of bytes that may be nil. -/
import Derived.Test.YtfakfllmbfjofaaW21
import Derived.Test.YtfakfllmbfjofaaS1
open Go Go.Fl
namespace Go.Proofs.Ytfakfllmbfjofaa
set_option linter.unusedSimpArgs false
set_option linter.unusedVariables false
set_option maxRecDepth 100000

theorem setBytes0_inv (w0 : World) {h : Hp} {b l n c : Nat} {a : Option Addr} {x : Nat → Nat} (e : NA h b l n x) :
    Inv Try.prog w0 89 #[.pointer (some ⟨b, 0, none⟩), .slice a 0 c] h fun v h' => v = .nilIface ∧ h' = h := by
  have hn := e.hn
  have h1776 : (17 : Int) < ((76 : Nat) : Int) := by decide
  have h3976 : (39 : Int) < ((76 : Nat) : Int) := by decide
  have h4876 : (48 : Int) < ((76 : Nat) : Int) := by decide
  refine Inv_of_Wc (args := [_, _]) Try.func89 rfl Try.ntmps89 (Nat.le_of_ble_eq_true rfl) hb89 ?_
  refine Wc_seq_k fun K hK => ?_
  refine Wc_plain [] rfl ?_
  simp only [true_and, vc_nil, ↓vc_move, ↓vc_assign, ↓vc_pick, ↓vc_nilCheck, ↓vc_bin, ↓vc_un, ↓vc_conv, ↓vc_extract, ↓vc_fieldAddr, ↓vc_len, ↓vc_cap, ↓vc_indexAddr, ↓vc_slice0, ↓vc_sliceH, ↓vc_sliceL, ↓vc_sliceB, ↓vc_load2, ↓vc_load1, ↓vc_store2, ↓vc_store1, ↓vc_call2, ↓vc_callW, ↓vc_callQ, ↓vc_guard, ↓ev_tmp, ↓ev_const, ↓ev_func, ↓lk_cons, ↓putL_some, ↓putL_none, ↓List.headD_nil, ↓List.tail_nil, ↓List.headD_cons, ↓List.tail_cons, thn, enumL, ↓reduceIte, Nat.reduceLT, Nat.reduceLeDiff, Nat.reduceEqDiff, Nat.reduceAdd, Nat.reduceMul, Nat.reduceSub, Nat.zero_add, Nat.add_zero, Nat.mul_one, List.map_toArray, List.map_cons, List.map_nil, reduceCtorEq, Int.toNat_natCast, List.getElem?_toArray, List.getElem?_cons_zero, List.getElem?_cons_succ, Bool.not_true, Bool.not_false, bop_lss, bop_leq, bop_gtr, bop_geq, bop_eql, bop_neq, bop_add, bop_sub, bop_mul, bop_and, bop_or, bop_xor, bop_andNot, oc, List.cons_append, List.nil_append]
  (refine hK _ _ ?_; clear hK; try clear K)
  refine Wc_seq_k fun K hK => ?_
  refine Wc_plain [] rfl ?_
  simp only [true_and, vc_nil, ↓vc_move, ↓vc_assign, ↓vc_pick, ↓vc_nilCheck, ↓vc_bin, ↓vc_un, ↓vc_conv, ↓vc_extract, ↓vc_fieldAddr, ↓vc_len, ↓vc_cap, ↓vc_indexAddr, ↓vc_slice0, ↓vc_sliceH, ↓vc_sliceL, ↓vc_sliceB, ↓vc_load2, ↓vc_load1, ↓vc_store2, ↓vc_store1, ↓vc_call2, ↓vc_callW, ↓vc_callQ, ↓vc_guard, ↓ev_tmp, ↓ev_const, ↓ev_func, ↓lk_cons, ↓putL_some, ↓putL_none, ↓List.headD_nil, ↓List.tail_nil, ↓List.headD_cons, ↓List.tail_cons, thn, enumL, ↓reduceIte, Nat.reduceLT, Nat.reduceLeDiff, Nat.reduceEqDiff, Nat.reduceAdd, Nat.reduceMul, Nat.reduceSub, Nat.zero_add, Nat.add_zero, Nat.mul_one, List.map_toArray, List.map_cons, List.map_nil, reduceCtorEq, Int.toNat_natCast, List.getElem?_toArray, List.getElem?_cons_zero, List.getElem?_cons_succ, Bool.not_true, Bool.not_false, bop_lss, bop_leq, bop_gtr, bop_geq, bop_eql, bop_neq, bop_add, bop_sub, bop_mul, bop_and, bop_or, bop_xor, bop_andNot, oc, List.cons_append, List.nil_append, isl30]
  (refine hK _ _ ?_; clear hK; try clear K)
  refine Wc_seq_k fun Ko hKo => ?_
  have fin2 : ∀ L : FL, lk L 5 = .int .i64 0 → lk L 4 = .nilIface → lk L 6 = .int .i64 0 → lk L 0 = .pointer (some ⟨b, 0, none⟩) → Ko L h := by
    intro L l5 l4 l6 l0
    (refine hKo _ _ ?_; clear hKo; try clear Ko)
    refine Wc_seq_k fun Kp hKp => ?_
    have fin3 : ∀ L : FL, lk L 5 = .int .i64 0 → lk L 4 = .nilIface → Kp L h := by
      intro L l5 l4
      (refine hKp _ _ ?_; clear hKp; try clear Kp)
      refine Wc_seq_k fun Kp hKp => ?_
      refine Wc_seq_k fun K hK => ?_
      refine Wc_plain [] rfl ?_
      simp only [true_and, vc_nil, ↓vc_move, ↓vc_assign, ↓vc_pick, ↓vc_nilCheck, ↓vc_bin, ↓vc_un, ↓vc_conv, ↓vc_extract, ↓vc_fieldAddr, ↓vc_len, ↓vc_cap, ↓vc_indexAddr, ↓vc_slice0, ↓vc_sliceH, ↓vc_sliceL, ↓vc_sliceB, ↓vc_load2, ↓vc_load1, ↓vc_store2, ↓vc_store1, ↓vc_call2, ↓vc_callW, ↓vc_callQ, ↓vc_guard, ↓ev_tmp, ↓ev_const, ↓ev_func, ↓lk_cons, ↓putL_some, ↓putL_none, ↓List.headD_nil, ↓List.tail_nil, ↓List.headD_cons, ↓List.tail_cons, thn, enumL, ↓reduceIte, Nat.reduceLT, Nat.reduceLeDiff, Nat.reduceEqDiff, Nat.reduceAdd, Nat.reduceMul, Nat.reduceSub, Nat.zero_add, Nat.add_zero, Nat.mul_one, List.map_toArray, List.map_cons, List.map_nil, reduceCtorEq, Int.toNat_natCast, List.getElem?_toArray, List.getElem?_cons_zero, List.getElem?_cons_succ, Bool.not_true, Bool.not_false, bop_lss, bop_leq, bop_gtr, bop_geq, bop_eql, bop_neq, bop_add, bop_sub, bop_mul, bop_and, bop_or, bop_xor, bop_andNot, oc, List.cons_append, List.nil_append, l5, Int.lt_irrefl]
      (refine hK _ _ ?_; clear hK; try clear K)
      refine Wc_cond (t := false) rfl (fun ht => by cases ht) (fun _ => ?_)
      refine Wc_skip ?_
      (refine hKp _ _ ?_; clear hKp; try clear Kp)
      refine Wc_seq_k fun K hK => ?_
      refine Wc_plain [] rfl ?_
      simp only [true_and, vc_nil, ↓vc_move, ↓vc_assign, ↓vc_pick, ↓vc_nilCheck, ↓vc_bin, ↓vc_un, ↓vc_conv, ↓vc_extract, ↓vc_fieldAddr, ↓vc_len, ↓vc_cap, ↓vc_indexAddr, ↓vc_slice0, ↓vc_sliceH, ↓vc_sliceL, ↓vc_sliceB, ↓vc_load2, ↓vc_load1, ↓vc_store2, ↓vc_store1, ↓vc_call2, ↓vc_callW, ↓vc_callQ, ↓vc_guard, ↓ev_tmp, ↓ev_const, ↓ev_func, ↓lk_cons, ↓putL_some, ↓putL_none, ↓List.headD_nil, ↓List.tail_nil, ↓List.headD_cons, ↓List.tail_cons, thn, enumL, ↓reduceIte, Nat.reduceLT, Nat.reduceLeDiff, Nat.reduceEqDiff, Nat.reduceAdd, Nat.reduceMul, Nat.reduceSub, Nat.zero_add, Nat.add_zero, Nat.mul_one, List.map_toArray, List.map_cons, List.map_nil, reduceCtorEq, Int.toNat_natCast, List.getElem?_toArray, List.getElem?_cons_zero, List.getElem?_cons_succ, Bool.not_true, Bool.not_false, bop_lss, bop_leq, bop_gtr, bop_geq, bop_eql, bop_neq, bop_add, bop_sub, bop_mul, bop_and, bop_or, bop_xor, bop_andNot, oc, List.cons_append, List.nil_append]
      (refine hK _ _ ?_; clear hK; try clear K)
      refine Wc_ret ?_
      simp only [true_and, fin, resV, ↓ev_tmp, ↓lk_cons, ↓reduceIte, Nat.reduceLT, Nat.reduceEqDiff, List.cons_append, List.nil_append, res89, l4]
    refine Wc_seq_k fun K hK => ?_
    refine Wc_plain [] rfl ?_
    simp only [true_and, vc_nil, ↓vc_move, ↓vc_assign, ↓vc_pick, ↓vc_nilCheck, ↓vc_bin, ↓vc_un, ↓vc_conv, ↓vc_extract, ↓vc_fieldAddr, ↓vc_len, ↓vc_cap, ↓vc_indexAddr, ↓vc_slice0, ↓vc_sliceH, ↓vc_sliceL, ↓vc_sliceB, ↓vc_load2, ↓vc_load1, ↓vc_store2, ↓vc_store1, ↓vc_call2, ↓vc_callW, ↓vc_callQ, ↓vc_guard, ↓ev_tmp, ↓ev_const, ↓ev_func, ↓lk_cons, ↓putL_some, ↓putL_none, ↓List.headD_nil, ↓List.tail_nil, ↓List.headD_cons, ↓List.tail_cons, thn, enumL, ↓reduceIte, Nat.reduceLT, Nat.reduceLeDiff, Nat.reduceEqDiff, Nat.reduceAdd, Nat.reduceMul, Nat.reduceSub, Nat.zero_add, Nat.add_zero, Nat.mul_one, List.map_toArray, List.map_cons, List.map_nil, reduceCtorEq, Int.toNat_natCast, List.getElem?_toArray, List.getElem?_cons_zero, List.getElem?_cons_succ, Bool.not_true, Bool.not_false, bop_lss, bop_leq, bop_gtr, bop_geq, bop_eql, bop_neq, bop_add, bop_sub, bop_mul, bop_and, bop_or, bop_xor, bop_andNot, oc, List.cons_append, List.nil_append]
    (refine hK _ _ ?_; clear hK; try clear K)
    refine Wc_block ?_
    refine Wc_rounds (α := Unit) (fun t => [(7, .int .i64 0), (6, .int .i64 0), (5, .int .i64 0), (0, .pointer (some ⟨b, 0, none⟩)), (4, .nilIface)])
      (fun t => h) (fun t => True) (fun t => 0) () ⟨rfl, l6, l5, l0, l4, trivial⟩ rfl trivial ?_
    rintro t D2 -
    refine Wc_seq_k fun K hK => ?_
    refine Wc_seq_k fun K hK => ?_
    refine Wc_plain [(2, .int .i64 39), (11, .int .i64 48)] rfl ?_
    by_cases hkn : 0 < n
    · have d1 : decide ((0 : Int) < (n : Int)) = true := decide_eq_true (by omega)
      simp only [true_and, vc_nil, ↓vc_move, ↓vc_assign, ↓vc_pick, ↓vc_nilCheck, ↓vc_bin, ↓vc_un, ↓vc_conv, ↓vc_extract, ↓vc_fieldAddr, ↓vc_len, ↓vc_cap, ↓vc_indexAddr, ↓vc_slice0, ↓vc_sliceH, ↓vc_sliceL, ↓vc_sliceB, ↓vc_load2, ↓vc_load1, ↓vc_store2, ↓vc_store1, ↓vc_call2, ↓vc_callW, ↓vc_callQ, ↓vc_guard, ↓ev_tmp, ↓ev_const, ↓ev_func, ↓lk_cons, ↓putL_some, ↓putL_none, ↓List.headD_nil, ↓List.tail_nil, ↓List.headD_cons, ↓List.tail_cons, thn, enumL, ↓reduceIte, Nat.reduceLT, Nat.reduceLeDiff, Nat.reduceEqDiff, Nat.reduceAdd, Nat.reduceMul, Nat.reduceSub, Nat.zero_add, Nat.add_zero, Nat.mul_one, List.map_toArray, List.map_cons, List.map_nil, reduceCtorEq, Int.toNat_natCast, List.getElem?_toArray, List.getElem?_cons_zero, List.getElem?_cons_succ, Bool.not_true, Bool.not_false, bop_lss, bop_leq, bop_gtr, bop_geq, bop_eql, bop_neq, bop_add, bop_sub, bop_mul, bop_and, bop_or, bop_xor, bop_andNot, oc, List.cons_append, List.nil_append, foff108_0, one106, cel_row e.hb, isl106, Int.reduceLT, Int.reduceToNat, decide_true, decide_false, d1, h3976, h4876, Int.lt_irrefl]
      (refine hK _ _ ?_; clear hK; try clear K)
      refine Wc_cond (t := false) rfl (fun ht => by cases ht) (fun _ => ?_)
      refine Wc_exit ?_
      simp only [thn, inB, ↓reduceIte]
      exact fin3 _ rfl rfl
    · have d1 : decide ((0 : Int) < (n : Int)) = false := decide_eq_false (by omega)
      simp only [true_and, vc_nil, ↓vc_move, ↓vc_assign, ↓vc_pick, ↓vc_nilCheck, ↓vc_bin, ↓vc_un, ↓vc_conv, ↓vc_extract, ↓vc_fieldAddr, ↓vc_len, ↓vc_cap, ↓vc_indexAddr, ↓vc_slice0, ↓vc_sliceH, ↓vc_sliceL, ↓vc_sliceB, ↓vc_load2, ↓vc_load1, ↓vc_store2, ↓vc_store1, ↓vc_call2, ↓vc_callW, ↓vc_callQ, ↓vc_guard, ↓ev_tmp, ↓ev_const, ↓ev_func, ↓lk_cons, ↓putL_some, ↓putL_none, ↓List.headD_nil, ↓List.tail_nil, ↓List.headD_cons, ↓List.tail_cons, thn, enumL, ↓reduceIte, Nat.reduceLT, Nat.reduceLeDiff, Nat.reduceEqDiff, Nat.reduceAdd, Nat.reduceMul, Nat.reduceSub, Nat.zero_add, Nat.add_zero, Nat.mul_one, List.map_toArray, List.map_cons, List.map_nil, reduceCtorEq, Int.toNat_natCast, List.getElem?_toArray, List.getElem?_cons_zero, List.getElem?_cons_succ, Bool.not_true, Bool.not_false, bop_lss, bop_leq, bop_gtr, bop_geq, bop_eql, bop_neq, bop_add, bop_sub, bop_mul, bop_and, bop_or, bop_xor, bop_andNot, oc, List.cons_append, List.nil_append, foff108_0, one106, cel_row e.hb, isl106, Int.reduceLT, Int.reduceToNat, decide_true, decide_false, d1, h3976, h4876, Int.lt_irrefl]
      (refine hK _ _ ?_; clear hK; try clear K)
      refine Wc_cond (t := false) rfl (fun ht => by cases ht) (fun _ => ?_)
      refine Wc_exit ?_
      simp only [thn, inB, ↓reduceIte]
      exact fin3 _ rfl rfl
  refine Wc_block ?_
  refine Wc_rounds (α := Unit) (fun k => [(6, .int .i64 0), (5, .int .i64 0), (0, .pointer (some ⟨b, 0, none⟩)), (4, .nilIface)])
    (fun k => h) (fun k => True) (fun k => 0) () ⟨rfl, rfl, rfl, rfl, trivial⟩ rfl trivial ?_
  rintro k D -
  refine Wc_seq_k fun K hK => ?_
  refine Wc_seq_k fun K hK => ?_
  refine Wc_plain [(7, .int .i64 17)] rfl ?_
  by_cases hkn : 0 < n
  · have d1 : decide ((0 : Int) < (n : Int)) = true := decide_eq_true (by omega)
    have d2 : decide ((8 : Int) ≤ 0) = false := by decide
    simp only [true_and, vc_nil, ↓vc_move, ↓vc_assign, ↓vc_pick, ↓vc_nilCheck, ↓vc_bin, ↓vc_un, ↓vc_conv, ↓vc_extract, ↓vc_fieldAddr, ↓vc_len, ↓vc_cap, ↓vc_indexAddr, ↓vc_slice0, ↓vc_sliceH, ↓vc_sliceL, ↓vc_sliceB, ↓vc_load2, ↓vc_load1, ↓vc_store2, ↓vc_store1, ↓vc_call2, ↓vc_callW, ↓vc_callQ, ↓vc_guard, ↓ev_tmp, ↓ev_const, ↓ev_func, ↓lk_cons, ↓putL_some, ↓putL_none, ↓List.headD_nil, ↓List.tail_nil, ↓List.headD_cons, ↓List.tail_cons, thn, enumL, ↓reduceIte, Nat.reduceLT, Nat.reduceLeDiff, Nat.reduceEqDiff, Nat.reduceAdd, Nat.reduceMul, Nat.reduceSub, Nat.zero_add, Nat.add_zero, Nat.mul_one, List.map_toArray, List.map_cons, List.map_nil, reduceCtorEq, Int.toNat_natCast, List.getElem?_toArray, List.getElem?_cons_zero, List.getElem?_cons_succ, Bool.not_true, Bool.not_false, bop_lss, bop_leq, bop_gtr, bop_geq, bop_eql, bop_neq, bop_add, bop_sub, bop_mul, bop_and, bop_or, bop_xor, bop_andNot, oc, List.cons_append, List.nil_append, foff108_0, one106, cel_row e.hb, isl106, Int.reduceLT, Int.reduceToNat, d1, d2, h1776]
    (refine hK _ _ ?_; clear hK; try clear K)
    refine Wc_cond (t := false) rfl (fun ht => by cases ht) (fun _ => ?_)
    refine Wc_exit ?_
    simp only [thn, inB, ↓reduceIte]
    exact fin2 _ rfl rfl rfl rfl
  · have d1 : decide ((0 : Int) < (n : Int)) = false := decide_eq_false (by omega)
    simp only [true_and, vc_nil, ↓vc_move, ↓vc_assign, ↓vc_pick, ↓vc_nilCheck, ↓vc_bin, ↓vc_un, ↓vc_conv, ↓vc_extract, ↓vc_fieldAddr, ↓vc_len, ↓vc_cap, ↓vc_indexAddr, ↓vc_slice0, ↓vc_sliceH, ↓vc_sliceL, ↓vc_sliceB, ↓vc_load2, ↓vc_load1, ↓vc_store2, ↓vc_store1, ↓vc_call2, ↓vc_callW, ↓vc_callQ, ↓vc_guard, ↓ev_tmp, ↓ev_const, ↓ev_func, ↓lk_cons, ↓putL_some, ↓putL_none, ↓List.headD_nil, ↓List.tail_nil, ↓List.headD_cons, ↓List.tail_cons, thn, enumL, ↓reduceIte, Nat.reduceLT, Nat.reduceLeDiff, Nat.reduceEqDiff, Nat.reduceAdd, Nat.reduceMul, Nat.reduceSub, Nat.zero_add, Nat.add_zero, Nat.mul_one, List.map_toArray, List.map_cons, List.map_nil, reduceCtorEq, Int.toNat_natCast, List.getElem?_toArray, List.getElem?_cons_zero, List.getElem?_cons_succ, Bool.not_true, Bool.not_false, bop_lss, bop_leq, bop_gtr, bop_geq, bop_eql, bop_neq, bop_add, bop_sub, bop_mul, bop_and, bop_or, bop_xor, bop_andNot, oc, List.cons_append, List.nil_append, foff108_0, one106, cel_row e.hb, isl106, Int.reduceLT, Int.reduceToNat, d1, h1776]
    (refine hK _ _ ?_; clear hK; try clear K)
    refine Wc_cond (t := false) rfl (fun ht => by cases ht) (fun _ => ?_)
    refine Wc_exit ?_
    simp only [thn, inB, ↓reduceIte]
    exact fin2 _ rfl rfl rfl rfl

/-- x is set to a number of no more bits than the modulus, less the modulus where it is not below -/
theorem SetOverG_inv (w0 : World) {h : Hp} {b l bm bn ln n : Nat} {vs : Value} {z N : Nat → Nat} {c1 c2 c3 : Value} (e : NA h b l 0 (fun _ => 0)) (em : MA h bm bn ln n N c1 c2 c3) (hn0 : 0 < n)
    (hzz : ∀ t, z t < 256) (hz0 : ∀ j, n ≤ j → BN.lw z j = 0) (hsb : ∀ h1, NA h1 b l n (fun _ => 0) → Ch [b, l] h h1 → Inv Try.prog w0 89 #[.pointer (some ⟨b, 0, none⟩), vs] h1 fun v h' => v = .nilIface ∧ NA h' b l n (fun j => if j < n then BN.lw z j else 0) ∧ Ch [l] h1 h')
    (d1 : l ≠ bm) (d2 : l ≠ bn) (d3 : l ≠ ln) (d4 : b ≠ bm) (d5 : b ≠ bn) (d6 : b ≠ ln) (hbits : blen 64 (BN.lw z (n - 1)) ≤ blen 64 (N (n - 1))) :
    Inv Try.prog w0 87 #[.pointer (some ⟨b, 0, none⟩), vs, .pointer (some ⟨bm, 0, none⟩)] h fun v h' =>
      v = .tuple #[.pointer (some ⟨b, 0, none⟩), .nilIface] ∧ NA h' b l n (msub 0 (BN.lw z) N n) ∧ Ch [b, l] h h' := by
  refine Inv_of_Wc (args := [_, _, _]) Try.func87 rfl Try.ntmps87 (Nat.le_of_ble_eq_true rfl) hb87 ?_
  refine Wc_seq_k fun K hK => ?_
  refine Wc_plain [] rfl ?_
  simp only [true_and, vc_nil, ↓vc_move, ↓vc_assign, ↓vc_pick, ↓vc_nilCheck, ↓vc_bin, ↓vc_un, ↓vc_conv, ↓vc_extract, ↓vc_fieldAddr, ↓vc_len, ↓vc_cap, ↓vc_indexAddr, ↓vc_slice0, ↓vc_sliceH, ↓vc_sliceL, ↓vc_sliceB, ↓vc_load2, ↓vc_load1, ↓vc_store2, ↓vc_store1, ↓vc_call2, ↓vc_callW, ↓vc_callQ, ↓vc_guard, ↓ev_tmp, ↓ev_const, ↓ev_func, ↓lk_cons, ↓putL_some, ↓putL_none, ↓List.headD_nil, ↓List.tail_nil, ↓List.headD_cons, ↓List.tail_cons, thn, enumL, ↓reduceIte, Nat.reduceLT, Nat.reduceLeDiff, Nat.reduceEqDiff, Nat.reduceAdd, Nat.reduceMul, Nat.reduceSub, Nat.zero_add, Nat.add_zero, Nat.mul_one, List.map_toArray, List.map_cons, List.map_nil, reduceCtorEq, Int.toNat_natCast, List.getElem?_toArray, List.getElem?_cons_zero, List.getElem?_cons_succ, Bool.not_true, Bool.not_false, bop_lss, bop_leq, bop_gtr, bop_geq, bop_eql, bop_neq, bop_add, bop_sub, bop_mul, bop_and, bop_or, bop_xor, bop_andNot, oc, List.cons_append, List.nil_append]
  (refine hK _ _ ?_; clear hK; try clear K)
  refine Wc_seq_k fun K hK => ?_
  refine Wc_plain [] rfl ?_
  simp only [true_and, vc_nil, ↓vc_move, ↓vc_assign, ↓vc_pick, ↓vc_nilCheck, ↓vc_bin, ↓vc_un, ↓vc_conv, ↓vc_extract, ↓vc_fieldAddr, ↓vc_len, ↓vc_cap, ↓vc_indexAddr, ↓vc_slice0, ↓vc_sliceH, ↓vc_sliceL, ↓vc_sliceB, ↓vc_load2, ↓vc_load1, ↓vc_store2, ↓vc_store1, ↓vc_call2, ↓vc_callW, ↓vc_callQ, ↓vc_guard, ↓ev_tmp, ↓ev_const, ↓ev_func, ↓lk_cons, ↓putL_some, ↓putL_none, ↓List.headD_nil, ↓List.tail_nil, ↓List.headD_cons, ↓List.tail_cons, thn, enumL, ↓reduceIte, Nat.reduceLT, Nat.reduceLeDiff, Nat.reduceEqDiff, Nat.reduceAdd, Nat.reduceMul, Nat.reduceSub, Nat.zero_add, Nat.add_zero, Nat.mul_one, List.map_toArray, List.map_cons, List.map_nil, reduceCtorEq, Int.toNat_natCast, List.getElem?_toArray, List.getElem?_cons_zero, List.getElem?_cons_succ, Bool.not_true, Bool.not_false, bop_lss, bop_leq, bop_gtr, bop_geq, bop_eql, bop_neq, bop_add, bop_sub, bop_mul, bop_and, bop_or, bop_xor, bop_andNot, oc, List.cons_append, List.nil_append]
  refine (resetFor_inv w0 e em).mono ?_
  rintro v h1 ⟨rfl, e1, k1⟩
  have e1' : NA h1 b l n (fun _ => 0) := e1.xeq (fun j _ => by split <;> rfl) (fun _ => by decide)
  have em1 := em.ch k1 (by simp; omega) (by simp; omega) (by simp; omega)
  (refine hK _ _ ?_; clear hK; try clear K)
  refine Wc_seq_k fun Ko hKo => ?_
  refine Wc_seq_k fun K hK => ?_
  refine Wc_plain [] rfl ?_
  simp only [true_and, vc_nil, ↓vc_move, ↓vc_assign, ↓vc_pick, ↓vc_nilCheck, ↓vc_bin, ↓vc_un, ↓vc_conv, ↓vc_extract, ↓vc_fieldAddr, ↓vc_len, ↓vc_cap, ↓vc_indexAddr, ↓vc_slice0, ↓vc_sliceH, ↓vc_sliceL, ↓vc_sliceB, ↓vc_load2, ↓vc_load1, ↓vc_store2, ↓vc_store1, ↓vc_call2, ↓vc_callW, ↓vc_callQ, ↓vc_guard, ↓ev_tmp, ↓ev_const, ↓ev_func, ↓lk_cons, ↓putL_some, ↓putL_none, ↓List.headD_nil, ↓List.tail_nil, ↓List.headD_cons, ↓List.tail_cons, thn, enumL, ↓reduceIte, Nat.reduceLT, Nat.reduceLeDiff, Nat.reduceEqDiff, Nat.reduceAdd, Nat.reduceMul, Nat.reduceSub, Nat.zero_add, Nat.add_zero, Nat.mul_one, List.map_toArray, List.map_cons, List.map_nil, reduceCtorEq, Int.toNat_natCast, List.getElem?_toArray, List.getElem?_cons_zero, List.getElem?_cons_succ, Bool.not_true, Bool.not_false, bop_lss, bop_leq, bop_gtr, bop_geq, bop_eql, bop_neq, bop_add, bop_sub, bop_mul, bop_and, bop_or, bop_xor, bop_andNot, oc, List.cons_append, List.nil_append]
  refine (hsb _ e1' k1).mono ?_
  rintro v h2 ⟨rfl, e2, k2⟩
  have em2 := em1.ch k2 (by simp; omega) (by simp; omega) (by simp; omega)
  have hn := e2.hn
  (refine hK _ _ ?_; clear hK; try clear K)
  refine Wc_seq_k fun K hK => ?_
  refine Wc_plain [] rfl ?_
  simp only [true_and, vc_nil, ↓vc_move, ↓vc_assign, ↓vc_pick, ↓vc_nilCheck, ↓vc_bin, ↓vc_un, ↓vc_conv, ↓vc_extract, ↓vc_fieldAddr, ↓vc_len, ↓vc_cap, ↓vc_indexAddr, ↓vc_slice0, ↓vc_sliceH, ↓vc_sliceL, ↓vc_sliceB, ↓vc_load2, ↓vc_load1, ↓vc_store2, ↓vc_store1, ↓vc_call2, ↓vc_callW, ↓vc_callQ, ↓vc_guard, ↓ev_tmp, ↓ev_const, ↓ev_func, ↓lk_cons, ↓putL_some, ↓putL_none, ↓List.headD_nil, ↓List.tail_nil, ↓List.headD_cons, ↓List.tail_cons, thn, enumL, ↓reduceIte, Nat.reduceLT, Nat.reduceLeDiff, Nat.reduceEqDiff, Nat.reduceAdd, Nat.reduceMul, Nat.reduceSub, Nat.zero_add, Nat.add_zero, Nat.mul_one, List.map_toArray, List.map_cons, List.map_nil, reduceCtorEq, Int.toNat_natCast, List.getElem?_toArray, List.getElem?_cons_zero, List.getElem?_cons_succ, Bool.not_true, Bool.not_false, bop_lss, bop_leq, bop_gtr, bop_geq, bop_eql, bop_neq, bop_add, bop_sub, bop_mul, bop_and, bop_or, bop_xor, bop_andNot, oc, List.cons_append, List.nil_append, bop_if, vf_bin]
  refine Ro_neqnil rfl rfl rfl ifc68 ?_
  (refine hK _ _ ?_; clear hK; try clear K)
  refine Wc_cond (t := false) rfl (fun ht => by cases ht) (fun _ => ?_)
  refine Wc_skip ?_
  (refine hKo _ _ ?_; clear hKo; try clear Ko)
  have wn : IntKind.i64.wrap ((n : Int) - 1) = ((n - 1 : Nat) : Int) := by rw [wrap_i64_id (by omega) (by omega)]; omega
  have q1 := bitLen_inv w0 h2 (BN.lw z (n - 1)) (BN.lw_lt hzz _)
  have q2 := bitLen_inv w0 h2 (N (n - 1)) (em2.hn.hx _)
  have dd : decide (((blen 64 (N (n - 1)) : Nat) : Int) < (blen 64 (BN.lw z (n - 1)) : Nat)) = false := decide_eq_false (by omega)
  refine Wc_seq_k fun Ko hKo => ?_
  refine Wc_seq_k fun K hK => ?_
  refine Wc_draw [] [0, 0, 0, 1, 0, 0, 0, 1, 0, 0, 0, 1, 1,  0, 0, 0, 1, 0, 0, 1, 0, 0, 0, 1, 0, 0, 1, 0, 0, 0, 1, 1, 0] rfl mixed (by kernel_rfl) ?_
  simp only [true_and, vc_nil, ↓vc_move, ↓vc_assign, ↓vc_pick, ↓vc_nilCheck, ↓vc_bin, ↓vc_un, ↓vc_conv, ↓vc_extract, ↓vc_fieldAddr, ↓vc_len, ↓vc_cap, ↓vc_indexAddr, ↓vc_slice0, ↓vc_sliceH, ↓vc_sliceL, ↓vc_sliceB, ↓vc_load2, ↓vc_load1, ↓vc_store2, ↓vc_store1, ↓vc_call2S, ↓vc_callWS, ↓vc_callQS, ↓vc_guard, ↓ev_tmp, ↓ev_const, ↓ev_func, ↓lk_cons, ↓putL_some, ↓putL_none, ↓List.headD_nil, ↓List.tail_nil, ↓List.headD_cons, ↓List.tail_cons, thn, enumL, ↓reduceIte, Nat.reduceLT, Nat.reduceLeDiff, Nat.reduceEqDiff, Nat.reduceAdd, Nat.reduceMul, Nat.reduceSub, Nat.zero_add, Nat.add_zero, Nat.mul_one, List.map_toArray, List.map_cons, List.map_nil, reduceCtorEq, Int.toNat_natCast, List.getElem?_toArray, List.getElem?_cons_zero, List.getElem?_cons_succ, Bool.not_true, Bool.not_false, bop_lss, bop_leq, bop_gtr, bop_geq, bop_eql, bop_neq, bop_add, bop_sub, bop_mul, bop_and, bop_or, bop_xor, bop_andNot, oc, List.cons_append, List.nil_append, foff108_0, one106, cel_row e2.hb, isl106, esz106, wn, one102, cel_row e2.hl, U_get (show n - 1 < 32 by omega), show n - 1 < n by omega]
  refine ⟨⟨by omega, by omega⟩, _, ⟨q1⟩, vcS_intro ?_⟩
  simp only [true_and, vc_nil, ↓vc_move, ↓vc_assign, ↓vc_pick, ↓vc_nilCheck, ↓vc_bin, ↓vc_un, ↓vc_conv, ↓vc_extract, ↓vc_fieldAddr, ↓vc_len, ↓vc_cap, ↓vc_indexAddr, ↓vc_slice0, ↓vc_sliceH, ↓vc_sliceL, ↓vc_sliceB, ↓vc_load2, ↓vc_load1, ↓vc_store2, ↓vc_store1, ↓vc_call2S, ↓vc_callWS, ↓vc_callQS, ↓vc_guard, ↓ev_tmp, ↓ev_const, ↓ev_func, ↓lk_cons, ↓putL_some, ↓putL_none, ↓List.headD_nil, ↓List.tail_nil, ↓List.headD_cons, ↓List.tail_cons, thn, enumL, ↓reduceIte, Nat.reduceLT, Nat.reduceLeDiff, Nat.reduceEqDiff, Nat.reduceAdd, Nat.reduceMul, Nat.reduceSub, Nat.zero_add, Nat.add_zero, Nat.mul_one, List.map_toArray, List.map_cons, List.map_nil, reduceCtorEq, Int.toNat_natCast, List.getElem?_toArray, List.getElem?_cons_zero, List.getElem?_cons_succ, Bool.not_true, Bool.not_false, bop_lss, bop_leq, bop_gtr, bop_geq, bop_eql, bop_neq, bop_add, bop_sub, bop_mul, bop_and, bop_or, bop_xor, bop_andNot, oc, List.cons_append, List.nil_append, foff108_0, one106, foff104_0, one73, one102, isl106, esz106, wn, cel_row em2.hm, cel_row em2.hn.hb, cel_row em2.hn.hl, U_get (show n - 1 < 32 by omega)]
  refine ⟨⟨by omega, by omega⟩, _, ⟨q2⟩, vcS_intro ?_⟩
  simp only [true_and, vc_nil, ↓vc_move, ↓vc_assign, ↓vc_pick, ↓vc_nilCheck, ↓vc_bin, ↓vc_un, ↓vc_conv, ↓vc_extract, ↓vc_fieldAddr, ↓vc_len, ↓vc_cap, ↓vc_indexAddr, ↓vc_slice0, ↓vc_sliceH, ↓vc_sliceL, ↓vc_sliceB, ↓vc_load2, ↓vc_load1, ↓vc_store2, ↓vc_store1, ↓vc_call2S, ↓vc_callWS, ↓vc_callQS, ↓vc_guard, ↓ev_tmp, ↓ev_const, ↓ev_func, ↓lk_cons, ↓putL_some, ↓putL_none, ↓List.headD_nil, ↓List.tail_nil, ↓List.headD_cons, ↓List.tail_cons, thn, enumL, ↓reduceIte, Nat.reduceLT, Nat.reduceLeDiff, Nat.reduceEqDiff, Nat.reduceAdd, Nat.reduceMul, Nat.reduceSub, Nat.zero_add, Nat.add_zero, Nat.mul_one, List.map_toArray, List.map_cons, List.map_nil, reduceCtorEq, Int.toNat_natCast, List.getElem?_toArray, List.getElem?_cons_zero, List.getElem?_cons_succ, Bool.not_true, Bool.not_false, bop_lss, bop_leq, bop_gtr, bop_geq, bop_eql, bop_neq, bop_add, bop_sub, bop_mul, bop_and, bop_or, bop_xor, bop_andNot, oc, List.cons_append, List.nil_append, dd]
  (refine hK _ _ ?_; clear hK; try clear K)
  refine Wc_cond (t := false) rfl (fun ht => by cases ht) (fun _ => ?_)
  refine Wc_skip ?_
  (refine hKo _ _ ?_; clear hKo; try clear Ko)
  refine Wc_seq_k fun K hK => ?_
  refine Wc_plain [] rfl ?_
  simp only [true_and, vc_nil, ↓vc_move, ↓vc_assign, ↓vc_pick, ↓vc_nilCheck, ↓vc_bin, ↓vc_un, ↓vc_conv, ↓vc_extract, ↓vc_fieldAddr, ↓vc_len, ↓vc_cap, ↓vc_indexAddr, ↓vc_slice0, ↓vc_sliceH, ↓vc_sliceL, ↓vc_sliceB, ↓vc_load2, ↓vc_load1, ↓vc_store2, ↓vc_store1, ↓vc_call2, ↓vc_callW, ↓vc_callQ, ↓vc_guard, ↓ev_tmp, ↓ev_const, ↓ev_func, ↓lk_cons, ↓putL_some, ↓putL_none, ↓List.headD_nil, ↓List.tail_nil, ↓List.headD_cons, ↓List.tail_cons, thn, enumL, ↓reduceIte, Nat.reduceLT, Nat.reduceLeDiff, Nat.reduceEqDiff, Nat.reduceAdd, Nat.reduceMul, Nat.reduceSub, Nat.zero_add, Nat.add_zero, Nat.mul_one, List.map_toArray, List.map_cons, List.map_nil, reduceCtorEq, Int.toNat_natCast, List.getElem?_toArray, List.getElem?_cons_zero, List.getElem?_cons_succ, Bool.not_true, Bool.not_false, bop_lss, bop_leq, bop_gtr, bop_geq, bop_eql, bop_neq, bop_add, bop_sub, bop_mul, bop_and, bop_or, bop_xor, bop_andNot, oc, List.cons_append, List.nil_append]
  refine (maybeSub_inv w0 e2 em2 (always := 0) (by omega) d1 d2 d3).mono ?_
  rintro v h3 ⟨rfl, e3, k3⟩
  (refine hK _ _ ?_; clear hK; try clear K)
  refine Wc_seq_k fun K hK => ?_
  refine Wc_plain [] rfl ?_
  simp only [true_and, vc_nil, ↓vc_move, ↓vc_assign, ↓vc_pick, ↓vc_nilCheck, ↓vc_bin, ↓vc_un, ↓vc_conv, ↓vc_extract, ↓vc_fieldAddr, ↓vc_len, ↓vc_cap, ↓vc_indexAddr, ↓vc_slice0, ↓vc_sliceH, ↓vc_sliceL, ↓vc_sliceB, ↓vc_load2, ↓vc_load1, ↓vc_store2, ↓vc_store1, ↓vc_call2, ↓vc_callW, ↓vc_callQ, ↓vc_guard, ↓ev_tmp, ↓ev_const, ↓ev_func, ↓lk_cons, ↓putL_some, ↓putL_none, ↓List.headD_nil, ↓List.tail_nil, ↓List.headD_cons, ↓List.tail_cons, thn, enumL, ↓reduceIte, Nat.reduceLT, Nat.reduceLeDiff, Nat.reduceEqDiff, Nat.reduceAdd, Nat.reduceMul, Nat.reduceSub, Nat.zero_add, Nat.add_zero, Nat.mul_one, List.map_toArray, List.map_cons, List.map_nil, reduceCtorEq, Int.toNat_natCast, List.getElem?_toArray, List.getElem?_cons_zero, List.getElem?_cons_succ, Bool.not_true, Bool.not_false, bop_lss, bop_leq, bop_gtr, bop_geq, bop_eql, bop_neq, bop_add, bop_sub, bop_mul, bop_and, bop_or, bop_xor, bop_andNot, oc, List.cons_append, List.nil_append]
  (refine hK _ _ ?_; clear hK; try clear K)
  refine Wc_ret ?_
  simp only [true_and, fin, resV, ↓ev_tmp, ↓lk_cons, ↓reduceIte, Nat.reduceLT, Nat.reduceEqDiff, List.cons_append, List.nil_append, res87]
  refine ⟨?_, (k1.trans (k2.sub (by simp))).trans (k3.sub (by simp))⟩
  have ef : (fun j => if j < n then BN.lw z j else 0) = BN.lw z := funext fun j => by
    split
    · rfl
    · exact (hz0 j (by omega)).symm
  rw [ef] at e3
  exact e3

/-- the same for bytes that are read where a slice leads, nil or not -/
theorem SetOverR_inv (w0 : World) {h : Hp} {b l m bm bn ln n : Nat} {vs : Value} {y N : Nat → Nat} {c1 c2 c3 : Value} (e : NA h b l 0 (fun _ => 0)) (em : MA h bm bn ln n N c1 c2 c3) (hn0 : 0 < n) (hm : m ≤ 8 * n)
    (hr : Rd .u8 h vs m (fun j => (y j : Int))) (hy : ∀ j, y j < 256) (hnb : ∀ bb off mm cc, vs = .slice (some ⟨bb, off, none⟩) mm cc → 0 < m → bb ≠ l ∧ bb ≠ b)
    (d1 : l ≠ bm) (d2 : l ≠ bn) (d3 : l ≠ ln) (d4 : b ≠ bm) (d5 : b ≠ bn) (d6 : b ≠ ln) (hbits : blen 64 (BN.lw (zb y m) (n - 1)) ≤ blen 64 (N (n - 1))) :
    Inv Try.prog w0 87 #[.pointer (some ⟨b, 0, none⟩), vs, .pointer (some ⟨bm, 0, none⟩)] h fun v h' =>
      v = .tuple #[.pointer (some ⟨b, 0, none⟩), .nilIface] ∧ NA h' b l n (msub 0 (BN.lw (zb y m)) N n) ∧ Ch [b, l] h h' := by
  refine SetOverG_inv w0 e em hn0 (fun t => ite_lt (hy _) (by decide)) (fun j hj => lw_out (by omega)) (fun h1 e1 k1 => ?_) d1 d2 d3 d4 d5 d6 hbits
  obtain ⟨a, c, rfl, r1, r2, r3⟩ := hr
  rcases Nat.eq_zero_or_pos m with rfl | hpos
  · refine (setBytes0_inv w0 e1).mono ?_
    rintro v h' ⟨rfl, rfl⟩
    refine ⟨rfl, e1.xeq (fun j _ => ?_) (fun j => ?_), Ch.refl _ _⟩
    · rw [lw_out (by omega)]; split <;> rfl
    · rw [lw_out (by omega)]; split <;> decide
  · obtain ⟨bb, off, rfl, hc⟩ := r3 hpos
    obtain ⟨g1, g2⟩ := hnb bb off m c rfl hpos
    refine (setBytes_inv w0 e1 (fun _ _ => rfl) hm r1 g1 (fun j hj => ?_) hy).mono ?_
    · have := hc j hj
      have hlt := cel_lt this
      unfold cel at this ⊢
      rw [k1.2 bb hlt (by simp; exact ⟨g2, g1⟩)]
      exact this
    · rintro v h' ⟨rfl, e', k'⟩
      exact ⟨rfl, e', k'⟩
end Go.Proofs.Ytfakfllmbfjofaa
