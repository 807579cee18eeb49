/- spec: the curve of 521 bits, its order. -/
import Derived.Test.YtfakfllmbfjofaaH1
open Go Go.Fl
namespace Go.Proofs.Ytfakfllmbfjofaa
set_option linter.unusedSimpArgs false
set_option linter.unusedVariables false
set_option maxRecDepth 100000

theorem rt24x521 : rowTy Try.prog 24 4 = true := by kernel_rfl

theorem b48x521 (a b : Int) (w : World) : (Instr.build 48 #[(0, .int .i64 a), (1, .int .i64 b)]).run Try.prog w = .ok (.agg #[.int .i64 a, .int .i64 b]) w := by kernel_rfl
theorem b24x521 (a b c : Int) (x : Option Addr) (m k : Nat) (w : World) : (Instr.build 24 #[(0, .int .i64 a), (1, .int .i64 b), (2, .int .i64 c), (3, .slice x m k)]).run Try.prog w = .ok (.agg #[.int .i64 a, .int .i64 b, .int .i64 c, .slice x m k]) w := by kernel_rfl
theorem b22x521 (w : World) : (Instr.buildSlice 22 1 #[(0, .agg #[.int .i64 0, .int .i64 8388608])]).run Try.prog w = .ok (.slice (some ⟨w.heap.size, 0, none⟩) 1 1) (w.alloc (.cells #[.int .i64 0, .int .i64 8388608] 48 (0, 0))) := by kernel_rfl

theorem Of_inv521 (w0 : World) (h : Hp) : Inv Try.prog w0 12 #[.int .i64 521] h fun v h' =>
    (∃ bf kf, v = .agg #[.int .i64 521, .int .i64 66, .int .i64 17, .slice (some ⟨bf, 0, none⟩) kf kf]) ∧ Ch [] h h' := by
  refine Inv_of_WcC (args := [_]) (t := 2) (ty := 24) Try.func12 rfl Try.ntmps12 (Nat.le_of_ble_eq_true rfl) hb12 rfl (by decide) (dd := (Try.prog.underlying 24).getD .string) (by kernel_rfl) (by kernel_rfl) ?_
  refine Wc_seq_k fun K hK => ?_
  refine Wc_plain [] rfl ?_
  simp only [true_and, vc_nil, ↓vc_move, ↓vc_assign, ↓vc_pick, ↓vc_nilCheck, ↓vc_bin, ↓vc_un, ↓vc_conv, ↓vc_extract, ↓vc_fieldAddr, ↓vc_len, ↓vc_cap, ↓vc_indexAddr, ↓vc_slice0, ↓vc_sliceH, ↓vc_sliceL, ↓vc_sliceB, ↓vc_load2, ↓vc_load1, ↓vc_store2, ↓vc_store1, ↓vc_call2S, ↓vc_callWS, ↓vc_callQS, ↓vc_guard, ↓ev_tmp, ↓ev_const, ↓ev_func, ↓lk_cons, ↓putL_some, ↓putL_none, ↓List.headD_nil, ↓List.tail_nil, ↓List.headD_cons, ↓List.tail_cons, thn, enumL, ↓reduceIte, Nat.reduceLT, Nat.reduceLeDiff, Nat.reduceEqDiff, Nat.reduceAdd, Nat.reduceMul, Nat.reduceSub, Nat.zero_add, Nat.add_zero, Nat.mul_one, List.map_toArray, List.map_cons, List.map_nil, reduceCtorEq, Int.toNat_natCast, List.getElem?_toArray, List.getElem?_cons_zero, List.getElem?_cons_succ, Bool.not_true, Bool.not_false, bop_lss, bop_leq, bop_gtr, bop_geq, bop_eql, bop_neq, bop_add, bop_sub, bop_mul, bop_and, bop_or, bop_xor, bop_andNot, oc, List.cons_append, List.nil_append, vc_alloc2]
  refine Ro_alloc rfl rfl ?_
  refine vcS_intro ?_
  simp only [true_and, vc_nil, ↓vc_move, ↓vc_assign, ↓vc_pick, ↓vc_nilCheck, ↓vc_bin, ↓vc_un, ↓vc_conv, ↓vc_extract, ↓vc_fieldAddr, ↓vc_len, ↓vc_cap, ↓vc_indexAddr, ↓vc_slice0, ↓vc_sliceH, ↓vc_sliceL, ↓vc_sliceB, ↓vc_load2, ↓vc_load1, ↓vc_store2, ↓vc_store1, ↓vc_call2S, ↓vc_callWS, ↓vc_callQS, ↓vc_guard, ↓ev_tmp, ↓ev_const, ↓ev_func, ↓lk_cons, ↓putL_some, ↓putL_none, ↓List.headD_nil, ↓List.tail_nil, ↓List.headD_cons, ↓List.tail_cons, thn, enumL, ↓reduceIte, Nat.reduceLT, Nat.reduceLeDiff, Nat.reduceEqDiff, Nat.reduceAdd, Nat.reduceMul, Nat.reduceSub, Nat.zero_add, Nat.add_zero, Nat.mul_one, List.map_toArray, List.map_cons, List.map_nil, reduceCtorEq, Int.toNat_natCast, List.getElem?_toArray, List.getElem?_cons_zero, List.getElem?_cons_succ, Bool.not_true, Bool.not_false, bop_lss, bop_leq, bop_gtr, bop_geq, bop_eql, bop_neq, bop_add, bop_sub, bop_mul, bop_and, bop_or, bop_xor, bop_andNot, oc, List.cons_append, List.nil_append]
  show K _ (h.push (.cells #[.int .i64 0, .int .i64 0, .int .i64 0, .slice none 0 0] 24 (0, 0)))
  have k1 := Ch.push [] h (.cells #[.int .i64 0, .int .i64 0, .int .i64 0, .slice none 0 0] 24 (0, 0))
  have r1 := rowOf_push h #[.int .i64 0, .int .i64 0, .int .i64 0, .slice none 0 0] 24
  generalize h.push (.cells #[.int .i64 0, .int .i64 0, .int .i64 0, .slice none 0 0] 24 (0, 0)) = h1 at k1 r1 ⊢
  have q1 := row_lt r1
  (refine hK _ _ ?_; clear hK; try clear K)
  refine Wc_seq_k fun Ko hKo => ?_
  refine Wc_seq_k fun K hK => ?_
  refine Wc_plain [] rfl ?_
  simp only [true_and, vc_nil, ↓vc_move, ↓vc_assign, ↓vc_pick, ↓vc_nilCheck, ↓vc_bin, ↓vc_un, ↓vc_conv, ↓vc_extract, ↓vc_fieldAddr, ↓vc_len, ↓vc_cap, ↓vc_indexAddr, ↓vc_slice0, ↓vc_sliceH, ↓vc_sliceL, ↓vc_sliceB, ↓vc_load2, ↓vc_load1, ↓vc_store2, ↓vc_store1, ↓vc_call2, ↓vc_callW, ↓vc_callQ, ↓vc_guard, ↓ev_tmp, ↓ev_const, ↓ev_func, ↓lk_cons, ↓putL_some, ↓putL_none, ↓List.headD_nil, ↓List.tail_nil, ↓List.headD_cons, ↓List.tail_cons, thn, enumL, ↓reduceIte, Nat.reduceLT, Nat.reduceLeDiff, Nat.reduceEqDiff, Nat.reduceAdd, Nat.reduceMul, Nat.reduceSub, Nat.zero_add, Nat.add_zero, Nat.mul_one, List.map_toArray, List.map_cons, List.map_nil, reduceCtorEq, Int.toNat_natCast, List.getElem?_toArray, List.getElem?_cons_zero, List.getElem?_cons_succ, Bool.not_true, Bool.not_false, bop_lss, bop_leq, bop_gtr, bop_geq, bop_eql, bop_neq, bop_add, bop_sub, bop_mul, bop_and, bop_or, bop_xor, bop_andNot, oc, List.cons_append, List.nil_append]
  (refine hK _ _ ?_; clear hK; try clear K)
  refine Wc_block ?_
  refine Wc_seq_k fun K hK => ?_
  refine Wc_plain [] rfl ?_
  simp only [true_and, vc_nil, ↓vc_move, ↓vc_assign, ↓vc_pick, ↓vc_nilCheck, ↓vc_bin, ↓vc_un, ↓vc_conv, ↓vc_extract, ↓vc_fieldAddr, ↓vc_len, ↓vc_cap, ↓vc_indexAddr, ↓vc_slice0, ↓vc_sliceH, ↓vc_sliceL, ↓vc_sliceB, ↓vc_load2, ↓vc_load1, ↓vc_store2, ↓vc_store1, ↓vc_call2, ↓vc_callW, ↓vc_callQ, ↓vc_guard, ↓ev_tmp, ↓ev_const, ↓ev_func, ↓lk_cons, ↓putL_some, ↓putL_none, ↓List.headD_nil, ↓List.tail_nil, ↓List.headD_cons, ↓List.tail_cons, thn, enumL, ↓reduceIte, Nat.reduceLT, Nat.reduceLeDiff, Nat.reduceEqDiff, Nat.reduceAdd, Nat.reduceMul, Nat.reduceSub, Nat.zero_add, Nat.add_zero, Nat.mul_one, List.map_toArray, List.map_cons, List.map_nil, reduceCtorEq, Int.toNat_natCast, List.getElem?_toArray, List.getElem?_cons_zero, List.getElem?_cons_succ, Bool.not_true, Bool.not_false, bop_lss, bop_leq, bop_gtr, bop_geq, bop_eql, bop_neq, bop_add, bop_sub, bop_mul, bop_and, bop_or, bop_xor, bop_andNot, oc, List.cons_append, List.nil_append]
  (refine hK _ _ ?_; clear hK; try clear K)
  refine Wc_cond (t := false) rfl (fun ht => by cases ht) (fun _ => ?_)
  refine Wc_seq_k fun K hK => ?_
  refine Wc_plain [] rfl ?_
  simp only [true_and, vc_nil, ↓vc_move, ↓vc_assign, ↓vc_pick, ↓vc_nilCheck, ↓vc_bin, ↓vc_un, ↓vc_conv, ↓vc_extract, ↓vc_fieldAddr, ↓vc_len, ↓vc_cap, ↓vc_indexAddr, ↓vc_slice0, ↓vc_sliceH, ↓vc_sliceL, ↓vc_sliceB, ↓vc_load2, ↓vc_load1, ↓vc_store2, ↓vc_store1, ↓vc_call2, ↓vc_callW, ↓vc_callQ, ↓vc_guard, ↓ev_tmp, ↓ev_const, ↓ev_func, ↓lk_cons, ↓putL_some, ↓putL_none, ↓List.headD_nil, ↓List.tail_nil, ↓List.headD_cons, ↓List.tail_cons, thn, enumL, ↓reduceIte, Nat.reduceLT, Nat.reduceLeDiff, Nat.reduceEqDiff, Nat.reduceAdd, Nat.reduceMul, Nat.reduceSub, Nat.zero_add, Nat.add_zero, Nat.mul_one, List.map_toArray, List.map_cons, List.map_nil, reduceCtorEq, Int.toNat_natCast, List.getElem?_toArray, List.getElem?_cons_zero, List.getElem?_cons_succ, Bool.not_true, Bool.not_false, bop_lss, bop_leq, bop_gtr, bop_geq, bop_eql, bop_neq, bop_add, bop_sub, bop_mul, bop_and, bop_or, bop_xor, bop_andNot, oc, List.cons_append, List.nil_append]
  (refine hK _ _ ?_; clear hK; try clear K)
  refine Wc_cond (t := false) rfl (fun ht => by cases ht) (fun _ => ?_)
  refine Wc_seq_k fun K hK => ?_
  refine Wc_plain [] rfl ?_
  simp only [true_and, vc_nil, ↓vc_move, ↓vc_assign, ↓vc_pick, ↓vc_nilCheck, ↓vc_bin, ↓vc_un, ↓vc_conv, ↓vc_extract, ↓vc_fieldAddr, ↓vc_len, ↓vc_cap, ↓vc_indexAddr, ↓vc_slice0, ↓vc_sliceH, ↓vc_sliceL, ↓vc_sliceB, ↓vc_load2, ↓vc_load1, ↓vc_store2, ↓vc_store1, ↓vc_call2, ↓vc_callW, ↓vc_callQ, ↓vc_guard, ↓ev_tmp, ↓ev_const, ↓ev_func, ↓lk_cons, ↓putL_some, ↓putL_none, ↓List.headD_nil, ↓List.tail_nil, ↓List.headD_cons, ↓List.tail_cons, thn, enumL, ↓reduceIte, Nat.reduceLT, Nat.reduceLeDiff, Nat.reduceEqDiff, Nat.reduceAdd, Nat.reduceMul, Nat.reduceSub, Nat.zero_add, Nat.add_zero, Nat.mul_one, List.map_toArray, List.map_cons, List.map_nil, reduceCtorEq, Int.toNat_natCast, List.getElem?_toArray, List.getElem?_cons_zero, List.getElem?_cons_succ, Bool.not_true, Bool.not_false, bop_lss, bop_leq, bop_gtr, bop_geq, bop_eql, bop_neq, bop_add, bop_sub, bop_mul, bop_and, bop_or, bop_xor, bop_andNot, oc, List.cons_append, List.nil_append]
  (refine hK _ _ ?_; clear hK; try clear K)
  refine Wc_cond (t := false) rfl (fun ht => by cases ht) (fun _ => ?_)
  refine Wc_skip ?_
  simp only [thn, inB]
  (refine hKo _ _ ?_; clear hKo; try clear Ko)
  refine Wc_seq_k fun K hK => ?_
  refine Wc_plainC [] [6, 6, 6, 6] rfl ?_
  simp only [true_and, vc_nil, ↓vc_move, ↓vc_assign, ↓vc_pick, ↓vc_nilCheck, ↓vc_bin, ↓vc_un, ↓vc_conv, ↓vc_extract, ↓vc_fieldAddr, ↓vc_len, ↓vc_cap, ↓vc_indexAddr, ↓vc_slice0, ↓vc_sliceH, ↓vc_sliceL, ↓vc_sliceB, ↓vc_load2, ↓vc_load1, ↓vc_store2, ↓vc_store1, ↓vc_call2S, ↓vc_callWS, ↓vc_callQS, ↓vc_guard, ↓ev_tmp, ↓ev_const, ↓ev_func, ↓lk_cons, ↓putL_some, ↓putL_none, ↓List.headD_nil, ↓List.tail_nil, ↓List.headD_cons, ↓List.tail_cons, thn, enumL, ↓reduceIte, Nat.reduceLT, Nat.reduceLeDiff, Nat.reduceEqDiff, Nat.reduceAdd, Nat.reduceMul, Nat.reduceSub, Nat.zero_add, Nat.add_zero, Nat.mul_one, List.map_toArray, List.map_cons, List.map_nil, reduceCtorEq, Int.toNat_natCast, List.getElem?_toArray, List.getElem?_cons_zero, List.getElem?_cons_succ, Bool.not_true, Bool.not_false, bop_lss, bop_leq, bop_gtr, bop_geq, bop_eql, bop_neq, bop_add, bop_sub, bop_mul, bop_and, bop_or, bop_xor, bop_andNot, oc, List.cons_append, List.nil_append, vc_build0]
  refine Ro_buildV #[(0, .int .i64 0), (1, .int .i64 8388608)] rfl (by simp only [List.map_toArray, List.map_cons, List.map_nil, ev_tmp, ev_const, ev_func, lk_cons, ↓reduceIte, Nat.reduceLT, Nat.reduceEqDiff]) (fun w => b48x521 0 8388608 w) (vcS_intro ?_)
  simp only [true_and, vc_nil, ↓vc_move, ↓vc_assign, ↓vc_pick, ↓vc_nilCheck, ↓vc_bin, ↓vc_un, ↓vc_conv, ↓vc_extract, ↓vc_fieldAddr, ↓vc_len, ↓vc_cap, ↓vc_indexAddr, ↓vc_slice0, ↓vc_sliceH, ↓vc_sliceL, ↓vc_sliceB, ↓vc_load2, ↓vc_load1, ↓vc_store2, ↓vc_store1, ↓vc_call2S, ↓vc_callWS, ↓vc_callQS, ↓vc_guard, ↓ev_tmp, ↓ev_const, ↓ev_func, ↓lk_cons, ↓putL_some, ↓putL_none, ↓List.headD_nil, ↓List.tail_nil, ↓List.headD_cons, ↓List.tail_cons, thn, enumL, ↓reduceIte, Nat.reduceLT, Nat.reduceLeDiff, Nat.reduceEqDiff, Nat.reduceAdd, Nat.reduceMul, Nat.reduceSub, Nat.zero_add, Nat.add_zero, Nat.mul_one, List.map_toArray, List.map_cons, List.map_nil, reduceCtorEq, Int.toNat_natCast, List.getElem?_toArray, List.getElem?_cons_zero, List.getElem?_cons_succ, Bool.not_true, Bool.not_false, bop_lss, bop_leq, bop_gtr, bop_geq, bop_eql, bop_neq, bop_add, bop_sub, bop_mul, bop_and, bop_or, bop_xor, bop_andNot, oc, List.cons_append, List.nil_append, vc_buildSlice6]
  refine Ro_buildL _ rfl (by simp only [List.map_toArray, List.map_cons, List.map_nil, ev_tmp, ev_const, ev_func, lk_cons, ↓reduceIte, Nat.reduceLT, Nat.reduceEqDiff]) (fun w => b22x521 w) (vcS_intro ?_)
  generalize hp : h1.push _ = h2
  have k2 : Ch [] h1 h2 := hp ▸ Ch.push [] h1 _
  clear hp
  simp only [true_and, vc_nil, ↓vc_move, ↓vc_assign, ↓vc_pick, ↓vc_nilCheck, ↓vc_bin, ↓vc_un, ↓vc_conv, ↓vc_extract, ↓vc_fieldAddr, ↓vc_len, ↓vc_cap, ↓vc_indexAddr, ↓vc_slice0, ↓vc_sliceH, ↓vc_sliceL, ↓vc_sliceB, ↓vc_load2, ↓vc_load1, ↓vc_store2, ↓vc_store1, ↓vc_call2S, ↓vc_callWS, ↓vc_callQS, ↓vc_guard, ↓ev_tmp, ↓ev_const, ↓ev_func, ↓lk_cons, ↓putL_some, ↓putL_none, ↓List.headD_nil, ↓List.tail_nil, ↓List.headD_cons, ↓List.tail_cons, thn, enumL, ↓reduceIte, Nat.reduceLT, Nat.reduceLeDiff, Nat.reduceEqDiff, Nat.reduceAdd, Nat.reduceMul, Nat.reduceSub, Nat.zero_add, Nat.add_zero, Nat.mul_one, List.map_toArray, List.map_cons, List.map_nil, reduceCtorEq, Int.toNat_natCast, List.getElem?_toArray, List.getElem?_cons_zero, List.getElem?_cons_succ, Bool.not_true, Bool.not_false, bop_lss, bop_leq, bop_gtr, bop_geq, bop_eql, bop_neq, bop_add, bop_sub, bop_mul, bop_and, bop_or, bop_xor, bop_andNot, oc, List.cons_append, List.nil_append, vc_build0]
  refine Ro_buildV #[(0, .int .i64 521), (1, .int .i64 66), (2, .int .i64 17), (3, .slice (some ⟨h1.size, 0, none⟩) 1 1)] rfl (by simp only [List.map_toArray, List.map_cons, List.map_nil, ev_tmp, ev_const, ev_func, lk_cons, ↓reduceIte, Nat.reduceLT, Nat.reduceEqDiff]) (fun w => b24x521 _ _ _ _ _ _ w) (vcS_intro ?_)
  have r2 := k2.row r1 (by simp)
  simp only [true_and, vc_nil, ↓vc_move, ↓vc_assign, ↓vc_pick, ↓vc_nilCheck, ↓vc_bin, ↓vc_un, ↓vc_conv, ↓vc_extract, ↓vc_fieldAddr, ↓vc_len, ↓vc_cap, ↓vc_indexAddr, ↓vc_slice0, ↓vc_sliceH, ↓vc_sliceL, ↓vc_sliceB, ↓vc_load2, ↓vc_load1, ↓vc_store2, ↓vc_store1, ↓vc_call2S, ↓vc_callWS, ↓vc_callQS, ↓vc_guard, ↓ev_tmp, ↓ev_const, ↓ev_func, ↓lk_cons, ↓putL_some, ↓putL_none, ↓List.headD_nil, ↓List.tail_nil, ↓List.headD_cons, ↓List.tail_cons, thn, enumL, ↓reduceIte, Nat.reduceLT, Nat.reduceLeDiff, Nat.reduceEqDiff, Nat.reduceAdd, Nat.reduceMul, Nat.reduceSub, Nat.zero_add, Nat.add_zero, Nat.mul_one, List.map_toArray, List.map_cons, List.map_nil, reduceCtorEq, Int.toNat_natCast, List.getElem?_toArray, List.getElem?_cons_zero, List.getElem?_cons_succ, Bool.not_true, Bool.not_false, bop_lss, bop_leq, bop_gtr, bop_geq, bop_eql, bop_neq, bop_add, bop_sub, bop_mul, bop_and, bop_or, bop_xor, bop_andNot, oc, List.cons_append, List.nil_append, vc_store6]
  refine Ro_storerow rfl rfl rfl r2 rt24x521 rfl rfl (by simp [Value.oneCell']) (vcS_intro ?_)
  have r3 := rowOf_hset_self (c := #[.int .i64 521, .int .i64 66, .int .i64 17, .slice (some ⟨h1.size, 0, none⟩) 1 1]) (T := 24) r2
  simp only [true_and, vc_nil, ↓vc_move, ↓vc_assign, ↓vc_pick, ↓vc_nilCheck, ↓vc_bin, ↓vc_un, ↓vc_conv, ↓vc_extract, ↓vc_fieldAddr, ↓vc_len, ↓vc_cap, ↓vc_indexAddr, ↓vc_slice0, ↓vc_sliceH, ↓vc_sliceL, ↓vc_sliceB, ↓vc_load2, ↓vc_load1, ↓vc_store2, ↓vc_store1, ↓vc_call2S, ↓vc_callWS, ↓vc_callQS, ↓vc_guard, ↓ev_tmp, ↓ev_const, ↓ev_func, ↓lk_cons, ↓putL_some, ↓putL_none, ↓List.headD_nil, ↓List.tail_nil, ↓List.headD_cons, ↓List.tail_cons, thn, enumL, ↓reduceIte, Nat.reduceLT, Nat.reduceLeDiff, Nat.reduceEqDiff, Nat.reduceAdd, Nat.reduceMul, Nat.reduceSub, Nat.zero_add, Nat.add_zero, Nat.mul_one, List.map_toArray, List.map_cons, List.map_nil, reduceCtorEq, Int.toNat_natCast, List.getElem?_toArray, List.getElem?_cons_zero, List.getElem?_cons_succ, Bool.not_true, Bool.not_false, bop_lss, bop_leq, bop_gtr, bop_geq, bop_eql, bop_neq, bop_add, bop_sub, bop_mul, bop_and, bop_or, bop_xor, bop_andNot, oc, List.cons_append, List.nil_append]
  (refine hK _ _ ?_; clear hK; try clear K)
  refine Wc_ret ?_
  simp only [thn, inB, finC]
  exact ⟨h.size, _, 24, rfl, r3, by kernel_rfl, ⟨_, _, rfl⟩, ((k1.trans k2).sub (by simp)).trans (Ch.hset (B := [h.size]) _ _ _ (by simp)) |>.new (fun i hi => .inr (by simp at hi; omega))⟩
end Go.Proofs.Ytfakfllmbfjofaa
