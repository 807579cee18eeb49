/- ecdsa: the bytes of the order of P-521. -/
import Derived.Test.YtfakfllmbfjofaaW21
import Derived.Test.YtfakfllmbfjofaaFlRow
import Derived.Test.YtfakfllmbfjofaaV2
open Go Go.Fl
namespace Go.Proofs.Ytfakfllmbfjofaa
set_option linter.unusedSimpArgs false
set_option linter.unusedVariables false
set_option maxRecDepth 100000

def ordL521 : List Nat := [1, 255, 255, 255, 255, 255, 255, 255, 255, 255, 255, 255, 255, 255, 255, 255, 255, 255, 255, 255, 255, 255, 255, 255, 255, 255, 255, 255, 255, 255, 255, 255, 255, 250, 81, 134, 135, 131, 191, 47, 150, 107, 127, 204, 1, 72, 247, 9, 165, 208, 59, 181, 201, 184, 137, 156, 71, 174, 187, 111, 183, 30, 145, 56, 100, 9]
def ordB521 (j : Nat) : Nat := ordL521.getD j 0

theorem bldOrd521 (w : World) : (Instr.buildSlice 30 66 #[(0, .int .u8 1), (1, .int .u8 255), (2, .int .u8 255), (3, .int .u8 255), (4, .int .u8 255), (5, .int .u8 255), (6, .int .u8 255), (7, .int .u8 255), (8, .int .u8 255), (9, .int .u8 255), (10, .int .u8 255), (11, .int .u8 255), (12, .int .u8 255), (13, .int .u8 255), (14, .int .u8 255), (15, .int .u8 255), (16, .int .u8 255), (17, .int .u8 255), (18, .int .u8 255), (19, .int .u8 255), (20, .int .u8 255), (21, .int .u8 255), (22, .int .u8 255), (23, .int .u8 255), (24, .int .u8 255), (25, .int .u8 255), (26, .int .u8 255), (27, .int .u8 255), (28, .int .u8 255), (29, .int .u8 255), (30, .int .u8 255), (31, .int .u8 255), (32, .int .u8 255), (33, .int .u8 250), (34, .int .u8 81), (35, .int .u8 134), (36, .int .u8 135), (37, .int .u8 131), (38, .int .u8 191), (39, .int .u8 47), (40, .int .u8 150), (41, .int .u8 107), (42, .int .u8 127), (43, .int .u8 204), (44, .int .u8 1), (45, .int .u8 72), (46, .int .u8 247), (47, .int .u8 9), (48, .int .u8 165), (49, .int .u8 208), (50, .int .u8 59), (51, .int .u8 181), (52, .int .u8 201), (53, .int .u8 184), (54, .int .u8 137), (55, .int .u8 156), (56, .int .u8 71), (57, .int .u8 174), (58, .int .u8 187), (59, .int .u8 111), (60, .int .u8 183), (61, .int .u8 30), (62, .int .u8 145), (63, .int .u8 56), (64, .int .u8 100), (65, .int .u8 9)]).run Try.prog w = .ok (.slice (some ⟨w.heap.size, 0, none⟩) 66 66) (w.alloc (.cells (ordL521.map fun b : Nat => Value.int .u8 (b : Int)).toArray 5 (0, 0))) := by
  kernel_rfl

theorem ord_inv521 (w0 : World) (h : Hp) : Inv Try.prog w0 66 #[] h fun v h' =>
    v = .slice (some ⟨h.size, 0, none⟩) 66 66 ∧ h' = h.push (.cells (RI .u8 (fun j => (ordB521 j : Int)) 66) 5 (0, 0)) := by
  refine Inv_of_Wc (args := []) Try.func66 rfl Try.ntmps66 (Nat.le_of_ble_eq_true rfl) hb66 ?_
  refine Wc_seq_k fun K hK => ?_
  refine Wc_plain [] rfl ?_
  simp only [true_and, vc_nil, ↓vc_move, ↓vc_assign, ↓vc_pick, ↓vc_nilCheck, ↓vc_bin, ↓vc_un, ↓vc_conv, ↓vc_extract, ↓vc_fieldAddr, ↓vc_len, ↓vc_cap, ↓vc_indexAddr, ↓vc_slice0, ↓vc_sliceH, ↓vc_sliceL, ↓vc_sliceB, ↓vc_load2, ↓vc_load1, ↓vc_store2, ↓vc_store1, ↓vc_call2, ↓vc_callW, ↓vc_callQ, ↓vc_guard, ↓ev_tmp, ↓ev_const, ↓ev_func, ↓lk_cons, ↓putL_some, ↓putL_none, ↓List.headD_nil, ↓List.tail_nil, ↓List.headD_cons, ↓List.tail_cons, thn, enumL, ↓reduceIte, Nat.reduceLT, Nat.reduceLeDiff, Nat.reduceEqDiff, Nat.reduceAdd, Nat.reduceMul, Nat.reduceSub, Nat.zero_add, Nat.add_zero, Nat.mul_one, List.map_toArray, List.map_cons, List.map_nil, reduceCtorEq, Int.toNat_natCast, List.getElem?_toArray, List.getElem?_cons_zero, List.getElem?_cons_succ, Bool.not_true, Bool.not_false, bop_lss, bop_leq, bop_gtr, bop_geq, bop_eql, bop_neq, bop_add, bop_sub, bop_mul, bop_and, bop_or, bop_xor, bop_andNot, oc, List.cons_append, List.nil_append]
  (refine hK _ _ ?_; clear hK; try clear K)
  refine Wc_seq_k fun K hK => ?_
  refine Wc_plain [] rfl ?_
  simp only [true_and, vc_nil, ↓vc_move, ↓vc_assign, ↓vc_pick, ↓vc_nilCheck, ↓vc_bin, ↓vc_un, ↓vc_conv, ↓vc_extract, ↓vc_fieldAddr, ↓vc_len, ↓vc_cap, ↓vc_indexAddr, ↓vc_slice0, ↓vc_sliceH, ↓vc_sliceL, ↓vc_sliceB, ↓vc_load2, ↓vc_load1, ↓vc_store2, ↓vc_store1, ↓vc_call2, ↓vc_callW, ↓vc_callQ, ↓vc_guard, ↓ev_tmp, ↓ev_const, ↓ev_func, ↓lk_cons, ↓putL_some, ↓putL_none, ↓List.headD_nil, ↓List.tail_nil, ↓List.headD_cons, ↓List.tail_cons, thn, enumL, ↓reduceIte, Nat.reduceLT, Nat.reduceLeDiff, Nat.reduceEqDiff, Nat.reduceAdd, Nat.reduceMul, Nat.reduceSub, Nat.zero_add, Nat.add_zero, Nat.mul_one, List.map_toArray, List.map_cons, List.map_nil, reduceCtorEq, Int.toNat_natCast, List.getElem?_toArray, List.getElem?_cons_zero, List.getElem?_cons_succ, Bool.not_true, Bool.not_false, bop_lss, bop_leq, bop_gtr, bop_geq, bop_eql, bop_neq, bop_add, bop_sub, bop_mul, bop_and, bop_or, bop_xor, bop_andNot, oc, List.cons_append, List.nil_append, vc_buildSlice2S]
  refine Ro_buildL _ rfl (by simp only [List.append_eq, List.cons_append, List.nil_append, List.map_toArray, List.map_cons, List.map_nil, ev_tmp, ev_const]) (fun w => bldOrd521 w) ?_
  refine vcS_intro ?_
  simp only [true_and, vc_nil, ↓vc_move, ↓vc_assign, ↓vc_pick, ↓vc_nilCheck, ↓vc_bin, ↓vc_un, ↓vc_conv, ↓vc_extract, ↓vc_fieldAddr, ↓vc_len, ↓vc_cap, ↓vc_indexAddr, ↓vc_slice0, ↓vc_sliceH, ↓vc_sliceL, ↓vc_sliceB, ↓vc_load2, ↓vc_load1, ↓vc_store2, ↓vc_store1, ↓vc_call2, ↓vc_callW, ↓vc_callQ, ↓vc_guard, ↓ev_tmp, ↓ev_const, ↓ev_func, ↓lk_cons, ↓putL_some, ↓putL_none, ↓List.headD_nil, ↓List.tail_nil, ↓List.headD_cons, ↓List.tail_cons, thn, enumL, ↓reduceIte, Nat.reduceLT, Nat.reduceLeDiff, Nat.reduceEqDiff, Nat.reduceAdd, Nat.reduceMul, Nat.reduceSub, Nat.zero_add, Nat.add_zero, Nat.mul_one, List.map_toArray, List.map_cons, List.map_nil, reduceCtorEq, Int.toNat_natCast, List.getElem?_toArray, List.getElem?_cons_zero, List.getElem?_cons_succ, Bool.not_true, Bool.not_false, bop_lss, bop_leq, bop_gtr, bop_geq, bop_eql, bop_neq, bop_add, bop_sub, bop_mul, bop_and, bop_or, bop_xor, bop_andNot, oc, List.cons_append, List.nil_append]
  (refine hK _ _ ?_; clear hK; try clear K)
  refine Wc_ret ?_
  simp only [true_and, fin, resV, ↓ev_tmp, ↓lk_cons, ↓reduceIte, Nat.reduceLT, Nat.reduceEqDiff, List.cons_append, List.nil_append, res66]
  rw [RI_list]
  rfl
end Go.Proofs.Ytfakfllmbfjofaa
