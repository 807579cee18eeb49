/- spec: the order of the curve of 384 bits as words. -/
import Derived.Test.YtfakfllmbfjofaaH2x384
open Go Go.Fl
namespace Go.Proofs.Ytfakfllmbfjofaa
set_option linter.unusedSimpArgs false
set_option linter.unusedVariables false
set_option maxRecDepth 100000

def hexS384 : ByteArray := ⟨#[102, 102, 102, 102, 102, 102, 102, 102, 102, 102, 102, 102, 102, 102, 102, 102, 102, 102, 102, 102, 102, 102, 102, 102, 102, 102, 102, 102, 102, 102, 102, 102, 102, 102, 102, 102, 102, 102, 102, 102, 102, 102, 102, 102, 102, 102, 102, 102, 99, 55, 54, 51, 52, 100, 56, 49, 102, 52, 51, 55, 50, 100, 100, 102, 53, 56, 49, 97, 48, 100, 98, 50, 52, 56, 98, 48, 97, 55, 55, 97, 101, 99, 101, 99, 49, 57, 54, 97, 99, 99, 99, 53, 50, 57, 55, 51]⟩
/-- the order's words -/
def ordV384 (j : Nat) : Nat := 39402006196394479212279040100143613805079739270465446667946905279627659399113263569398956308152294913554433653942643 / 4294967296 ^ j % 4294967296

theorem hex_facts384 : hexS384.size ≤ 8 * 12 ∧ (∀ i : Fin hexS384.size, sB hexS384 i.val < 128) ∧ (∀ j : Fin 12, hxI hexS384 hexS384.size j.val = (ordV384 j.val : Int)) := by
  decide +kernel

theorem SOrder_inv384 (w0 : World) (h : Hp) (bf : Nat) (kf : Nat) : Inv Try.prog w0 13 #[.agg #[.int .i64 384, .int .i64 48, .int .i64 12, .slice (some ⟨bf, 0, none⟩) kf kf]] h fun v h' =>
    ∃ bo, v = .slice (some ⟨bo, 0, none⟩) 12 12 ∧ rowOf h' bo = some (RI .i64 (fun j => (ordV384 j : Int)) 12, 2) ∧ Ch [] h h' ∧ h.size ≤ bo := by
  obtain ⟨f1, f2, f3⟩ := hex_facts384
  refine Inv_of_Wc (args := [_]) Try.func13 rfl Try.ntmps13 (Nat.le_of_ble_eq_true rfl) hb13 ?_
  refine Wc_seq_k fun K hK => ?_
  refine Wc_plain [] rfl ?_
  simp only [true_and, vc_nil, ↓vc_move, ↓vc_assign, ↓vc_pick, ↓vc_nilCheck, ↓vc_bin, ↓vc_un, ↓vc_conv, ↓vc_extract, ↓vc_fieldAddr, ↓vc_len, ↓vc_cap, ↓vc_indexAddr, ↓vc_slice0, ↓vc_sliceH, ↓vc_sliceL, ↓vc_sliceB, ↓vc_load2, ↓vc_load1, ↓vc_store2, ↓vc_store1, ↓vc_call2, ↓vc_callW, ↓vc_callQ, ↓vc_guard, ↓ev_tmp, ↓ev_const, ↓ev_func, ↓lk_cons, ↓putL_some, ↓putL_none, ↓List.headD_nil, ↓List.tail_nil, ↓List.headD_cons, ↓List.tail_cons, thn, enumL, ↓reduceIte, Nat.reduceLT, Nat.reduceLeDiff, Nat.reduceEqDiff, Nat.reduceAdd, Nat.reduceMul, Nat.reduceSub, Nat.zero_add, Nat.add_zero, Nat.mul_one, List.map_toArray, List.map_cons, List.map_nil, reduceCtorEq, Int.toNat_natCast, List.getElem?_toArray, List.getElem?_cons_zero, List.getElem?_cons_succ, Bool.not_true, Bool.not_false, bop_lss, bop_leq, bop_gtr, bop_geq, bop_eql, bop_neq, bop_add, bop_sub, bop_mul, bop_and, bop_or, bop_xor, bop_andNot, oc, List.cons_append, List.nil_append, vc_box2]
  refine Ro_box rfl ?_
  simp only [true_and, vc_nil, ↓vc_move, ↓vc_assign, ↓vc_pick, ↓vc_nilCheck, ↓vc_bin, ↓vc_un, ↓vc_conv, ↓vc_extract, ↓vc_fieldAddr, ↓vc_len, ↓vc_cap, ↓vc_indexAddr, ↓vc_slice0, ↓vc_sliceH, ↓vc_sliceL, ↓vc_sliceB, ↓vc_load2, ↓vc_load1, ↓vc_store2, ↓vc_store1, ↓vc_call2, ↓vc_callW, ↓vc_callQ, ↓vc_guard, ↓ev_tmp, ↓ev_const, ↓ev_func, ↓lk_cons, ↓putL_some, ↓putL_none, ↓List.headD_nil, ↓List.tail_nil, ↓List.headD_cons, ↓List.tail_cons, thn, enumL, ↓reduceIte, Nat.reduceLT, Nat.reduceLeDiff, Nat.reduceEqDiff, Nat.reduceAdd, Nat.reduceMul, Nat.reduceSub, Nat.zero_add, Nat.add_zero, Nat.mul_one, List.map_toArray, List.map_cons, List.map_nil, reduceCtorEq, Int.toNat_natCast, List.getElem?_toArray, List.getElem?_cons_zero, List.getElem?_cons_succ, Bool.not_true, Bool.not_false, bop_lss, bop_leq, bop_gtr, bop_geq, bop_eql, bop_neq, bop_add, bop_sub, bop_mul, bop_and, bop_or, bop_xor, bop_andNot, oc, List.cons_append, List.nil_append]
  show K _ (h.push (.cells #[.int .i64 384, .int .i64 48, .int .i64 12, .slice (some ⟨bf, 0, none⟩) kf kf] 24 (0, 0)))
  have k1 := Ch.push [] h (.cells #[.int .i64 384, .int .i64 48, .int .i64 12, .slice (some ⟨bf, 0, none⟩) kf kf] 24 (0, 0))
  have r1 := rowOf_push h #[.int .i64 384, .int .i64 48, .int .i64 12, .slice (some ⟨bf, 0, none⟩) kf kf] 24
  generalize h.push (.cells #[.int .i64 384, .int .i64 48, .int .i64 12, .slice (some ⟨bf, 0, none⟩) kf kf] 24 (0, 0)) = h1 at k1 r1 ⊢
  (refine hK _ _ ?_; clear hK; try clear K)
  refine Wc_seq_k fun Ko hKo => ?_
  refine Wc_seq_k fun K hK => ?_
  refine Wc_plain [] rfl ?_
  simp only [true_and, vc_nil, ↓vc_move, ↓vc_assign, ↓vc_pick, ↓vc_nilCheck, ↓vc_bin, ↓vc_un, ↓vc_conv, ↓vc_extract, ↓vc_fieldAddr, ↓vc_len, ↓vc_cap, ↓vc_indexAddr, ↓vc_slice0, ↓vc_sliceH, ↓vc_sliceL, ↓vc_sliceB, ↓vc_load2, ↓vc_load1, ↓vc_store2, ↓vc_store1, ↓vc_call2, ↓vc_callW, ↓vc_callQ, ↓vc_guard, ↓ev_tmp, ↓ev_const, ↓ev_func, ↓lk_cons, ↓putL_some, ↓putL_none, ↓List.headD_nil, ↓List.tail_nil, ↓List.headD_cons, ↓List.tail_cons, thn, enumL, ↓reduceIte, Nat.reduceLT, Nat.reduceLeDiff, Nat.reduceEqDiff, Nat.reduceAdd, Nat.reduceMul, Nat.reduceSub, Nat.zero_add, Nat.add_zero, Nat.mul_one, List.map_toArray, List.map_cons, List.map_nil, reduceCtorEq, Int.toNat_natCast, List.getElem?_toArray, List.getElem?_cons_zero, List.getElem?_cons_succ, Bool.not_true, Bool.not_false, bop_lss, bop_leq, bop_gtr, bop_geq, bop_eql, bop_neq, bop_add, bop_sub, bop_mul, bop_and, bop_or, bop_xor, bop_andNot, oc, List.cons_append, List.nil_append, foff24_0, one3, cel_row r1]
  (refine hK _ _ ?_; clear hK; try clear K)
  refine Wc_block ?_
  refine Wc_seq_k fun K hK => ?_
  refine Wc_plain [] rfl ?_
  simp only [true_and, vc_nil, ↓vc_move, ↓vc_assign, ↓vc_pick, ↓vc_nilCheck, ↓vc_bin, ↓vc_un, ↓vc_conv, ↓vc_extract, ↓vc_fieldAddr, ↓vc_len, ↓vc_cap, ↓vc_indexAddr, ↓vc_slice0, ↓vc_sliceH, ↓vc_sliceL, ↓vc_sliceB, ↓vc_load2, ↓vc_load1, ↓vc_store2, ↓vc_store1, ↓vc_call2, ↓vc_callW, ↓vc_callQ, ↓vc_guard, ↓ev_tmp, ↓ev_const, ↓ev_func, ↓lk_cons, ↓putL_some, ↓putL_none, ↓List.headD_nil, ↓List.tail_nil, ↓List.headD_cons, ↓List.tail_cons, thn, enumL, ↓reduceIte, Nat.reduceLT, Nat.reduceLeDiff, Nat.reduceEqDiff, Nat.reduceAdd, Nat.reduceMul, Nat.reduceSub, Nat.zero_add, Nat.add_zero, Nat.mul_one, List.map_toArray, List.map_cons, List.map_nil, reduceCtorEq, Int.toNat_natCast, List.getElem?_toArray, List.getElem?_cons_zero, List.getElem?_cons_succ, Bool.not_true, Bool.not_false, bop_lss, bop_leq, bop_gtr, bop_geq, bop_eql, bop_neq, bop_add, bop_sub, bop_mul, bop_and, bop_or, bop_xor, bop_andNot, oc, List.cons_append, List.nil_append]
  (refine hK _ _ ?_; clear hK; try clear K)
  refine Wc_cond (t := false) rfl (fun ht => by cases ht) (fun _ => ?_)
  refine Wc_seq_k fun K hK => ?_
  refine Wc_plain [] rfl ?_
  simp only [true_and, vc_nil, ↓vc_move, ↓vc_assign, ↓vc_pick, ↓vc_nilCheck, ↓vc_bin, ↓vc_un, ↓vc_conv, ↓vc_extract, ↓vc_fieldAddr, ↓vc_len, ↓vc_cap, ↓vc_indexAddr, ↓vc_slice0, ↓vc_sliceH, ↓vc_sliceL, ↓vc_sliceB, ↓vc_load2, ↓vc_load1, ↓vc_store2, ↓vc_store1, ↓vc_call2, ↓vc_callW, ↓vc_callQ, ↓vc_guard, ↓ev_tmp, ↓ev_const, ↓ev_func, ↓lk_cons, ↓putL_some, ↓putL_none, ↓List.headD_nil, ↓List.tail_nil, ↓List.headD_cons, ↓List.tail_cons, thn, enumL, ↓reduceIte, Nat.reduceLT, Nat.reduceLeDiff, Nat.reduceEqDiff, Nat.reduceAdd, Nat.reduceMul, Nat.reduceSub, Nat.zero_add, Nat.add_zero, Nat.mul_one, List.map_toArray, List.map_cons, List.map_nil, reduceCtorEq, Int.toNat_natCast, List.getElem?_toArray, List.getElem?_cons_zero, List.getElem?_cons_succ, Bool.not_true, Bool.not_false, bop_lss, bop_leq, bop_gtr, bop_geq, bop_eql, bop_neq, bop_add, bop_sub, bop_mul, bop_and, bop_or, bop_xor, bop_andNot, oc, List.cons_append, List.nil_append]
  (refine hK _ _ ?_; clear hK; try clear K)
  refine Wc_cond (t := false) rfl (fun ht => by cases ht) (fun _ => ?_)
  refine Wc_seq_k fun K hK => ?_
  refine Wc_plain [] rfl ?_
  simp only [true_and, vc_nil, ↓vc_move, ↓vc_assign, ↓vc_pick, ↓vc_nilCheck, ↓vc_bin, ↓vc_un, ↓vc_conv, ↓vc_extract, ↓vc_fieldAddr, ↓vc_len, ↓vc_cap, ↓vc_indexAddr, ↓vc_slice0, ↓vc_sliceH, ↓vc_sliceL, ↓vc_sliceB, ↓vc_load2, ↓vc_load1, ↓vc_store2, ↓vc_store1, ↓vc_call2, ↓vc_callW, ↓vc_callQ, ↓vc_guard, ↓ev_tmp, ↓ev_const, ↓ev_func, ↓lk_cons, ↓putL_some, ↓putL_none, ↓List.headD_nil, ↓List.tail_nil, ↓List.headD_cons, ↓List.tail_cons, thn, enumL, ↓reduceIte, Nat.reduceLT, Nat.reduceLeDiff, Nat.reduceEqDiff, Nat.reduceAdd, Nat.reduceMul, Nat.reduceSub, Nat.zero_add, Nat.add_zero, Nat.mul_one, List.map_toArray, List.map_cons, List.map_nil, reduceCtorEq, Int.toNat_natCast, List.getElem?_toArray, List.getElem?_cons_zero, List.getElem?_cons_succ, Bool.not_true, Bool.not_false, bop_lss, bop_leq, bop_gtr, bop_geq, bop_eql, bop_neq, bop_add, bop_sub, bop_mul, bop_and, bop_or, bop_xor, bop_andNot, oc, List.cons_append, List.nil_append]
  (refine hK _ _ ?_; clear hK; try clear K)
  refine Wc_cond (t := true) rfl (fun _ => ?_) (fun hf => by cases hf)
  refine Wc_seq_k fun K hK => ?_
  refine Wc_plainC [] [6] rfl ?_
  simp only [true_and, vc_nil, ↓vc_move, ↓vc_assign, ↓vc_pick, ↓vc_nilCheck, ↓vc_bin, ↓vc_un, ↓vc_conv, ↓vc_extract, ↓vc_fieldAddr, ↓vc_len, ↓vc_cap, ↓vc_indexAddr, ↓vc_slice0, ↓vc_sliceH, ↓vc_sliceL, ↓vc_sliceB, ↓vc_load2, ↓vc_load1, ↓vc_store2, ↓vc_store1, ↓vc_call2S, ↓vc_callWS, ↓vc_callQS, ↓vc_guard, ↓ev_tmp, ↓ev_const, ↓ev_func, ↓lk_cons, ↓putL_some, ↓putL_none, ↓List.headD_nil, ↓List.tail_nil, ↓List.headD_cons, ↓List.tail_cons, thn, enumL, ↓reduceIte, Nat.reduceLT, Nat.reduceLeDiff, Nat.reduceEqDiff, Nat.reduceAdd, Nat.reduceMul, Nat.reduceSub, Nat.zero_add, Nat.add_zero, Nat.mul_one, List.map_toArray, List.map_cons, List.map_nil, reduceCtorEq, Int.toNat_natCast, List.getElem?_toArray, List.getElem?_cons_zero, List.getElem?_cons_succ, Bool.not_true, Bool.not_false, bop_lss, bop_leq, bop_gtr, bop_geq, bop_eql, bop_neq, bop_add, bop_sub, bop_mul, bop_and, bop_or, bop_xor, bop_andNot, oc, List.cons_append, List.nil_append, vc_load6]
  refine Ro_of_Rs (Rs_loadrow rfl rfl r1 rt24x384 rfl) (vcS_intro ?_)
  simp only [true_and, vc_nil, ↓vc_move, ↓vc_assign, ↓vc_pick, ↓vc_nilCheck, ↓vc_bin, ↓vc_un, ↓vc_conv, ↓vc_extract, ↓vc_fieldAddr, ↓vc_len, ↓vc_cap, ↓vc_indexAddr, ↓vc_slice0, ↓vc_sliceH, ↓vc_sliceL, ↓vc_sliceB, ↓vc_load2, ↓vc_load1, ↓vc_store2, ↓vc_store1, ↓vc_call2S, ↓vc_callWS, ↓vc_callQS, ↓vc_guard, ↓ev_tmp, ↓ev_const, ↓ev_func, ↓lk_cons, ↓putL_some, ↓putL_none, ↓List.headD_nil, ↓List.tail_nil, ↓List.headD_cons, ↓List.tail_cons, thn, enumL, ↓reduceIte, Nat.reduceLT, Nat.reduceLeDiff, Nat.reduceEqDiff, Nat.reduceAdd, Nat.reduceMul, Nat.reduceSub, Nat.zero_add, Nat.add_zero, Nat.mul_one, List.map_toArray, List.map_cons, List.map_nil, reduceCtorEq, Int.toNat_natCast, List.getElem?_toArray, List.getElem?_cons_zero, List.getElem?_cons_succ, Bool.not_true, Bool.not_false, bop_lss, bop_leq, bop_gtr, bop_geq, bop_eql, bop_neq, bop_add, bop_sub, bop_mul, bop_and, bop_or, bop_xor, bop_andNot, oc, List.cons_append, List.nil_append]
  refine (hex_inv w0 (s := hexS384) f1 (by decide) (fun i hi => f2 ⟨i, hi⟩)).mono ?_
  rintro v h2 ⟨bo, rfl, r2, k2, g2⟩
  refine vcS_intro ?_
  simp only [true_and, vc_nil, ↓vc_move, ↓vc_assign, ↓vc_pick, ↓vc_nilCheck, ↓vc_bin, ↓vc_un, ↓vc_conv, ↓vc_extract, ↓vc_fieldAddr, ↓vc_len, ↓vc_cap, ↓vc_indexAddr, ↓vc_slice0, ↓vc_sliceH, ↓vc_sliceL, ↓vc_sliceB, ↓vc_load2, ↓vc_load1, ↓vc_store2, ↓vc_store1, ↓vc_call2S, ↓vc_callWS, ↓vc_callQS, ↓vc_guard, ↓ev_tmp, ↓ev_const, ↓ev_func, ↓lk_cons, ↓putL_some, ↓putL_none, ↓List.headD_nil, ↓List.tail_nil, ↓List.headD_cons, ↓List.tail_cons, thn, enumL, ↓reduceIte, Nat.reduceLT, Nat.reduceLeDiff, Nat.reduceEqDiff, Nat.reduceAdd, Nat.reduceMul, Nat.reduceSub, Nat.zero_add, Nat.add_zero, Nat.mul_one, List.map_toArray, List.map_cons, List.map_nil, reduceCtorEq, Int.toNat_natCast, List.getElem?_toArray, List.getElem?_cons_zero, List.getElem?_cons_succ, Bool.not_true, Bool.not_false, bop_lss, bop_leq, bop_gtr, bop_geq, bop_eql, bop_neq, bop_add, bop_sub, bop_mul, bop_and, bop_or, bop_xor, bop_andNot, oc, List.cons_append, List.nil_append]
  (refine hK _ _ ?_; clear hK; try clear K)
  refine Wc_ret ?_
  simp only [true_and, fin, resV, ↓ev_tmp, ↓lk_cons, ↓reduceIte, Nat.reduceLT, Nat.reduceEqDiff, List.cons_append, List.nil_append, thn, inB, res13]
  refine ⟨bo, rfl, ?_, k1.trans k2, Nat.le_trans k1.1 g2⟩
  exact r2.trans (congrArg (fun a => some (a, 2)) (RI_congr (fun j hj => f3 ⟨j, hj⟩)))
end Go.Proofs.Ytfakfllmbfjofaa
