/- bigmod: bigEndianUint. -/
import Derived.Test.YtfakfllmbfjofaaW15
open Go Go.Fl
namespace Go.Proofs.Ytfakfllmbfjofaa
set_option linter.unusedSimpArgs false
set_option linter.unusedVariables false
set_option maxRecDepth 100000

theorem bigEndian_inv (w0 : World) {h : Hp} {bb off n c : Nat} {y : Nat → Nat} (hn : 8 ≤ n) (hnc : n ≤ c) (hc : ∀ j, j < 8 → cel h ⟨bb, off + j, none⟩ = some (.int .u8 (y j : Nat))) (hy : ∀ j, y j < 256) :
    Inv Try.prog w0 109 #[.slice (some ⟨bb, off, none⟩) n c] h fun v h' => v = .int .u64 (be8 y) ∧ h' = h := by
  have b0 := hy 0
  have b1 := hy 1
  have b2 := hy 2
  have b3 := hy 3
  have b4 := hy 4
  have b5 := hy 5
  have b6 := hy 6
  have b7 := hy 7
  have hb : be8 y < 18446744073709551616 := by unfold be8; omega
  have w : IntKind.u64.wrap (be8 y : Int) = (be8 y : Int) := by rw [IntKind.wrap_u64]; omega
  refine Inv_of_Wc (args := [_]) Try.func109 rfl Try.ntmps109 (Nat.le_of_ble_eq_true rfl) hb109 ?_
  refine Wc_seq_k fun K hK => ?_
  refine Wc_plain [] rfl ?_
  simp only [true_and, vc_nil, ↓vc_move, ↓vc_assign, ↓vc_pick, ↓vc_nilCheck, ↓vc_bin, ↓vc_un, ↓vc_conv, ↓vc_extract, ↓vc_fieldAddr, ↓vc_len, ↓vc_cap, ↓vc_indexAddr, ↓vc_slice0, ↓vc_sliceH, ↓vc_sliceL, ↓vc_sliceB, ↓vc_load2, ↓vc_load1, ↓vc_store2, ↓vc_store1, ↓vc_call2, ↓vc_callW, ↓vc_callQ, ↓vc_guard, ↓ev_tmp, ↓ev_const, ↓ev_func, ↓lk_cons, ↓putL_some, ↓putL_none, ↓List.headD_nil, ↓List.tail_nil, ↓List.headD_cons, ↓List.tail_cons, thn, enumL, ↓reduceIte, Nat.reduceLT, Nat.reduceLeDiff, Nat.reduceEqDiff, Nat.reduceAdd, Nat.reduceMul, Nat.reduceSub, Nat.zero_add, Nat.add_zero, Nat.mul_one, List.map_toArray, List.map_cons, List.map_nil, reduceCtorEq, Int.toNat_natCast, List.getElem?_toArray, List.getElem?_cons_zero, List.getElem?_cons_succ, Bool.not_true, Bool.not_false, bop_lss, bop_leq, bop_gtr, bop_geq, bop_eql, bop_neq, bop_add, bop_sub, bop_mul, bop_and, bop_or, bop_xor, bop_andNot, oc, List.cons_append, List.nil_append]
  (refine hK _ _ ?_; clear hK; try clear K)
  refine Wc_seq_k fun Ko hKo => ?_
  refine Wc_cond (t := true) rfl (fun _ => ?_) (fun hf => by cases hf)
  refine Wc_seq_k fun K hK => ?_
  refine Wc_plain [] rfl ?_
  simp only [true_and, vc_nil, ↓vc_move, ↓vc_assign, ↓vc_pick, ↓vc_nilCheck, ↓vc_bin, ↓vc_un, ↓vc_conv, ↓vc_extract, ↓vc_fieldAddr, ↓vc_len, ↓vc_cap, ↓vc_indexAddr, ↓vc_slice0, ↓vc_sliceH, ↓vc_sliceL, ↓vc_sliceB, ↓vc_load2, ↓vc_load1, ↓vc_store2, ↓vc_store1, ↓vc_call2, ↓vc_callW, ↓vc_callQ, ↓vc_guard, ↓ev_tmp, ↓ev_const, ↓ev_func, ↓lk_cons, ↓putL_some, ↓putL_none, ↓List.headD_nil, ↓List.tail_nil, ↓List.headD_cons, ↓List.tail_cons, thn, enumL, ↓reduceIte, Nat.reduceLT, Nat.reduceLeDiff, Nat.reduceEqDiff, Nat.reduceAdd, Nat.reduceMul, Nat.reduceSub, Nat.zero_add, Nat.add_zero, Nat.mul_one, List.map_toArray, List.map_cons, List.map_nil, reduceCtorEq, Int.toNat_natCast, List.getElem?_toArray, List.getElem?_cons_zero, List.getElem?_cons_succ, Bool.not_true, Bool.not_false, bop_lss, bop_leq, bop_gtr, bop_geq, bop_eql, bop_neq, bop_add, bop_sub, bop_mul, bop_and, bop_or, bop_xor, bop_andNot, oc, List.cons_append, List.nil_append]
  refine (beUint64_inv w0 hn hnc hc hy).mono ?_
  rintro v h' ⟨rfl, rfl⟩
  (refine hK _ _ ?_; clear hK; try clear K)
  refine Wc_ret ?_
  simp only [true_and, fin, resV, ↓ev_tmp, ↓lk_cons, ↓reduceIte, Nat.reduceLT, Nat.reduceEqDiff, List.cons_append, List.nil_append, thn, res109]
end Go.Proofs.Ytfakfllmbfjofaa
