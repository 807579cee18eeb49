/- ecdsa: the bytes of the order of P-384. -/
import Derived.Test.YtfakfllmbfjofaaW21
import Derived.Test.YtfakfllmbfjofaaFlRow
import Derived.Test.YtfakfllmbfjofaaV2
open Go Go.Fl
namespace Go.Proofs.Ytfakfllmbfjofaa
set_option linter.unusedSimpArgs false
set_option linter.unusedVariables false
set_option maxRecDepth 100000

def ordL384 : List Nat := [255, 255, 255, 255, 255, 255, 255, 255, 255, 255, 255, 255, 255, 255, 255, 255, 255, 255, 255, 255, 255, 255, 255, 255, 199, 99, 77, 129, 244, 55, 45, 223, 88, 26, 13, 178, 72, 176, 167, 122, 236, 236, 25, 106, 204, 197, 41, 115]
def ordB384 (j : Nat) : Nat := ordL384.getD j 0

theorem bldOrd384 (w : World) : (Instr.buildSlice 30 48 #[(0, .int .u8 255), (1, .int .u8 255), (2, .int .u8 255), (3, .int .u8 255), (4, .int .u8 255), (5, .int .u8 255), (6, .int .u8 255), (7, .int .u8 255), (8, .int .u8 255), (9, .int .u8 255), (10, .int .u8 255), (11, .int .u8 255), (12, .int .u8 255), (13, .int .u8 255), (14, .int .u8 255), (15, .int .u8 255), (16, .int .u8 255), (17, .int .u8 255), (18, .int .u8 255), (19, .int .u8 255), (20, .int .u8 255), (21, .int .u8 255), (22, .int .u8 255), (23, .int .u8 255), (24, .int .u8 199), (25, .int .u8 99), (26, .int .u8 77), (27, .int .u8 129), (28, .int .u8 244), (29, .int .u8 55), (30, .int .u8 45), (31, .int .u8 223), (32, .int .u8 88), (33, .int .u8 26), (34, .int .u8 13), (35, .int .u8 178), (36, .int .u8 72), (37, .int .u8 176), (38, .int .u8 167), (39, .int .u8 122), (40, .int .u8 236), (41, .int .u8 236), (42, .int .u8 25), (43, .int .u8 106), (44, .int .u8 204), (45, .int .u8 197), (46, .int .u8 41), (47, .int .u8 115)]).run Try.prog w = .ok (.slice (some ⟨w.heap.size, 0, none⟩) 48 48) (w.alloc (.cells (ordL384.map fun b : Nat => Value.int .u8 (b : Int)).toArray 5 (0, 0))) := by
  kernel_rfl

theorem ord_inv384 (w0 : World) (h : Hp) : Inv Try.prog w0 63 #[] h fun v h' =>
    v = .slice (some ⟨h.size, 0, none⟩) 48 48 ∧ h' = h.push (.cells (RI .u8 (fun j => (ordB384 j : Int)) 48) 5 (0, 0)) := by
  refine Inv_of_Wc (args := []) Try.func63 rfl Try.ntmps63 (Nat.le_of_ble_eq_true rfl) hb63 ?_
  refine Wc_seq_k fun K hK => ?_
  refine Wc_plain [] rfl ?_
  simp only [true_and, vc_nil, ↓vc_move, ↓vc_assign, ↓vc_pick, ↓vc_nilCheck, ↓vc_bin, ↓vc_un, ↓vc_conv, ↓vc_extract, ↓vc_fieldAddr, ↓vc_len, ↓vc_cap, ↓vc_indexAddr, ↓vc_slice0, ↓vc_sliceH, ↓vc_sliceL, ↓vc_sliceB, ↓vc_load2, ↓vc_load1, ↓vc_store2, ↓vc_store1, ↓vc_call2, ↓vc_callW, ↓vc_callQ, ↓vc_guard, ↓ev_tmp, ↓ev_const, ↓ev_func, ↓lk_cons, ↓putL_some, ↓putL_none, ↓List.headD_nil, ↓List.tail_nil, ↓List.headD_cons, ↓List.tail_cons, thn, enumL, ↓reduceIte, Nat.reduceLT, Nat.reduceLeDiff, Nat.reduceEqDiff, Nat.reduceAdd, Nat.reduceMul, Nat.reduceSub, Nat.zero_add, Nat.add_zero, Nat.mul_one, List.map_toArray, List.map_cons, List.map_nil, reduceCtorEq, Int.toNat_natCast, List.getElem?_toArray, List.getElem?_cons_zero, List.getElem?_cons_succ, Bool.not_true, Bool.not_false, bop_lss, bop_leq, bop_gtr, bop_geq, bop_eql, bop_neq, bop_add, bop_sub, bop_mul, bop_and, bop_or, bop_xor, bop_andNot, oc, List.cons_append, List.nil_append]
  (refine hK _ _ ?_; clear hK; try clear K)
  refine Wc_seq_k fun K hK => ?_
  refine Wc_plain [] rfl ?_
  simp only [true_and, vc_nil, ↓vc_move, ↓vc_assign, ↓vc_pick, ↓vc_nilCheck, ↓vc_bin, ↓vc_un, ↓vc_conv, ↓vc_extract, ↓vc_fieldAddr, ↓vc_len, ↓vc_cap, ↓vc_indexAddr, ↓vc_slice0, ↓vc_sliceH, ↓vc_sliceL, ↓vc_sliceB, ↓vc_load2, ↓vc_load1, ↓vc_store2, ↓vc_store1, ↓vc_call2, ↓vc_callW, ↓vc_callQ, ↓vc_guard, ↓ev_tmp, ↓ev_const, ↓ev_func, ↓lk_cons, ↓putL_some, ↓putL_none, ↓List.headD_nil, ↓List.tail_nil, ↓List.headD_cons, ↓List.tail_cons, thn, enumL, ↓reduceIte, Nat.reduceLT, Nat.reduceLeDiff, Nat.reduceEqDiff, Nat.reduceAdd, Nat.reduceMul, Nat.reduceSub, Nat.zero_add, Nat.add_zero, Nat.mul_one, List.map_toArray, List.map_cons, List.map_nil, reduceCtorEq, Int.toNat_natCast, List.getElem?_toArray, List.getElem?_cons_zero, List.getElem?_cons_succ, Bool.not_true, Bool.not_false, bop_lss, bop_leq, bop_gtr, bop_geq, bop_eql, bop_neq, bop_add, bop_sub, bop_mul, bop_and, bop_or, bop_xor, bop_andNot, oc, List.cons_append, List.nil_append, vc_buildSlice2S]
  refine Ro_buildL _ rfl (by simp only [List.append_eq, List.cons_append, List.nil_append, List.map_toArray, List.map_cons, List.map_nil, ev_tmp, ev_const]) (fun w => bldOrd384 w) ?_
  refine vcS_intro ?_
  simp only [true_and, vc_nil, ↓vc_move, ↓vc_assign, ↓vc_pick, ↓vc_nilCheck, ↓vc_bin, ↓vc_un, ↓vc_conv, ↓vc_extract, ↓vc_fieldAddr, ↓vc_len, ↓vc_cap, ↓vc_indexAddr, ↓vc_slice0, ↓vc_sliceH, ↓vc_sliceL, ↓vc_sliceB, ↓vc_load2, ↓vc_load1, ↓vc_store2, ↓vc_store1, ↓vc_call2, ↓vc_callW, ↓vc_callQ, ↓vc_guard, ↓ev_tmp, ↓ev_const, ↓ev_func, ↓lk_cons, ↓putL_some, ↓putL_none, ↓List.headD_nil, ↓List.tail_nil, ↓List.headD_cons, ↓List.tail_cons, thn, enumL, ↓reduceIte, Nat.reduceLT, Nat.reduceLeDiff, Nat.reduceEqDiff, Nat.reduceAdd, Nat.reduceMul, Nat.reduceSub, Nat.zero_add, Nat.add_zero, Nat.mul_one, List.map_toArray, List.map_cons, List.map_nil, reduceCtorEq, Int.toNat_natCast, List.getElem?_toArray, List.getElem?_cons_zero, List.getElem?_cons_succ, Bool.not_true, Bool.not_false, bop_lss, bop_leq, bop_gtr, bop_geq, bop_eql, bop_neq, bop_add, bop_sub, bop_mul, bop_and, bop_or, bop_xor, bop_andNot, oc, List.cons_append, List.nil_append]
  (refine hK _ _ ?_; clear hK; try clear K)
  refine Wc_ret ?_
  simp only [true_and, fin, resV, ↓ev_tmp, ↓lk_cons, ↓reduceIte, Nat.reduceLT, Nat.reduceEqDiff, List.cons_append, List.nil_append, res63]
  rw [RI_list]
  rfl
end Go.Proofs.Ytfakfllmbfjofaa
