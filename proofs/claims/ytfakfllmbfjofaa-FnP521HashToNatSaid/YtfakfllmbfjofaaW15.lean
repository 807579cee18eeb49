/- bigmod: beUint32. -/
import Derived.Test.YtfakfllmbfjofaaW14
open Go Go.Fl
namespace Go.Proofs.Ytfakfllmbfjofaa
set_option linter.unusedSimpArgs false
set_option linter.unusedVariables false
set_option maxRecDepth 100000

theorem or_u32 (a k i : Nat) (ha : a < 2 ^ i) (h : 2 ^ i * k + a < 4294967296) : bits .or .u32 (a : Int) ((2 ^ i * k : Nat) : Int) = ((2 ^ i * k + a : Nat) : Int) := by
  rw [u32_or_nat a (2 ^ i * k) (by omega) (by omega), Nat.or_comm, ← Nat.two_pow_add_eq_or_of_lt ha]

theorem shl_u32 (y i : Nat) (m : Int) (hm : m = (i : Int)) (hi : i ≤ 32) (h : 2 ^ i * y < 4294967296) : sh .shl (.int .u32 (y : Int)) (.int .u64 m) = some (.int .u32 ((2 ^ i * y : Nat) : Int)) := by
  subst hm
  have e : min i IntKind.u32.bits = i := Nat.min_eq_left hi
  rw [sh_shl (by omega), Int.toNat_natCast, e]
  have e2 : ((y : Int) * 2 ^ i) = ((2 ^ i * y : Nat) : Int) := by rw [Nat.mul_comm]; simp
  rw [e2, IntKind.wrap_u32]
  congr 2
  omega

theorem beUint32_inv (w0 : World) {h : Hp} {bb off n c : Nat} {y : Nat → Nat} (hn : 4 ≤ n) (hc : ∀ j, j < 4 → cel h ⟨bb, off + j, none⟩ = some (.int .u8 (y j : Nat))) (hy : ∀ j, y j < 256) :
    Inv Try.prog w0 125 #[.slice (some ⟨bb, off, none⟩) n c] h fun v h' => v = .int .u32 ((y 0 * 16777216 + y 1 * 65536 + y 2 * 256 + y 3 : Nat) : Int) ∧ h' = h := by
  have b0 := hy 0
  have b1 := hy 1
  have b2 := hy 2
  have b3 := hy 3
  have c0 := hc 0 (by omega)
  have c1 := hc 1 (by omega)
  have c2 := hc 2 (by omega)
  have c3 := hc 3 (by omega)
  simp only [Nat.add_zero] at c0
  have w : ∀ j, IntKind.u32.wrap ((y j : Nat) : Int) = ((y j : Nat) : Int) := fun j => by have := hy j; rw [IntKind.wrap_u32]; omega
  have s2 := shl_u32 (y 2) 8 8 rfl (by omega) (by omega)
  have s1 := shl_u32 (y 1) 16 16 rfl (by omega) (by omega)
  have s0 := shl_u32 (y 0) 24 24 rfl (by omega) (by omega)
  have o1 := or_u32 (y 3) (y 2) 8 (by omega) (by omega)
  have o2 := or_u32 (2 ^ 8 * y 2 + y 3) (y 1) 16 (by omega) (by omega)
  have o3 := or_u32 (2 ^ 16 * y 1 + (2 ^ 8 * y 2 + y 3)) (y 0) 24 (by omega) (by omega)
  have er : 2 ^ 24 * y 0 + (2 ^ 16 * y 1 + (2 ^ 8 * y 2 + y 3)) = y 0 * 16777216 + y 1 * 65536 + y 2 * 256 + y 3 := by omega
  refine Inv_of_Wc (args := [_]) Try.func125 rfl Try.ntmps125 (Nat.le_of_ble_eq_true rfl) hb125 ?_
  refine Wc_seq_k fun K hK => ?_
  refine Wc_plain [] rfl ?_
  simp only [true_and, vc_nil, ↓vc_move, ↓vc_assign, ↓vc_pick, ↓vc_nilCheck, ↓vc_bin, ↓vc_un, ↓vc_conv, ↓vc_extract, ↓vc_fieldAddr, ↓vc_len, ↓vc_cap, ↓vc_indexAddr, ↓vc_slice0, ↓vc_sliceH, ↓vc_sliceL, ↓vc_sliceB, ↓vc_load2, ↓vc_load1, ↓vc_store2, ↓vc_store1, ↓vc_call2, ↓vc_callW, ↓vc_callQ, ↓vc_guard, ↓ev_tmp, ↓ev_const, ↓ev_func, ↓lk_cons, ↓putL_some, ↓putL_none, ↓List.headD_nil, ↓List.tail_nil, ↓List.headD_cons, ↓List.tail_cons, thn, enumL, ↓reduceIte, Nat.reduceLT, Nat.reduceLeDiff, Nat.reduceEqDiff, Nat.reduceAdd, Nat.reduceMul, Nat.reduceSub, Nat.zero_add, Nat.add_zero, Nat.mul_one, List.map_toArray, List.map_cons, List.map_nil, reduceCtorEq, Int.toNat_natCast, List.getElem?_toArray, List.getElem?_cons_zero, List.getElem?_cons_succ, Bool.not_true, Bool.not_false, bop_lss, bop_leq, bop_gtr, bop_geq, bop_eql, bop_neq, bop_add, bop_sub, bop_mul, bop_and, bop_or, bop_xor, bop_andNot, oc, List.cons_append, List.nil_append]
  (refine hK _ _ ?_; clear hK; try clear K)
  refine Wc_seq_k fun K hK => ?_
  refine Wc_plain [] rfl ?_
  simp only [true_and, vc_nil, ↓vc_move, ↓vc_assign, ↓vc_pick, ↓vc_nilCheck, ↓vc_bin, ↓vc_un, ↓vc_conv, ↓vc_extract, ↓vc_fieldAddr, ↓vc_len, ↓vc_cap, ↓vc_indexAddr, ↓vc_slice0, ↓vc_sliceH, ↓vc_sliceL, ↓vc_sliceB, ↓vc_load2, ↓vc_load1, ↓vc_store2, ↓vc_store1, ↓vc_call2, ↓vc_callW, ↓vc_callQ, ↓vc_guard, ↓ev_tmp, ↓ev_const, ↓ev_func, ↓lk_cons, ↓putL_some, ↓putL_none, ↓List.headD_nil, ↓List.tail_nil, ↓List.headD_cons, ↓List.tail_cons, thn, enumL, ↓reduceIte, Nat.reduceLT, Nat.reduceLeDiff, Nat.reduceEqDiff, Nat.reduceAdd, Nat.reduceMul, Nat.reduceSub, Nat.zero_add, Nat.add_zero, Nat.mul_one, List.map_toArray, List.map_cons, List.map_nil, reduceCtorEq, Int.toNat_natCast, List.getElem?_toArray, List.getElem?_cons_zero, List.getElem?_cons_succ, Bool.not_true, Bool.not_false, bop_lss, bop_leq, bop_gtr, bop_geq, bop_eql, bop_neq, bop_add, bop_sub, bop_mul, bop_and, bop_or, bop_xor, bop_andNot, oc, List.cons_append, List.nil_append, esz30, one5, Int.reduceToNat, c3]
  try refine ⟨⟨by omega, by omega⟩, ?_⟩
  (refine hK _ _ ?_; clear hK; try clear K)
  refine Wc_seq_k fun K hK => ?_
  refine Wc_draw [] [0, 0, 1, 0, 0, 0, 1, 0, 0, 0, 0, 0, 1, 0, 0, 0, 0, 0, 1, 0, 0, 0, 0] rfl mixed (by kernel_rfl) ?_
  simp only [true_and, vc_nil, ↓vc_move, ↓vc_assign, ↓vc_pick, ↓vc_nilCheck, ↓vc_bin, ↓vc_un, ↓vc_conv, ↓vc_extract, ↓vc_fieldAddr, ↓vc_len, ↓vc_cap, ↓vc_indexAddr, ↓vc_slice0, ↓vc_sliceH, ↓vc_sliceL, ↓vc_sliceB, ↓vc_load2, ↓vc_load1, ↓vc_store2, ↓vc_store1, ↓vc_call2, ↓vc_callW, ↓vc_callQ, ↓vc_guard, ↓ev_tmp, ↓ev_const, ↓ev_func, ↓lk_cons, ↓putL_some, ↓putL_none, ↓List.headD_nil, ↓List.tail_nil, ↓List.headD_cons, ↓List.tail_cons, thn, enumL, ↓reduceIte, Nat.reduceLT, Nat.reduceLeDiff, Nat.reduceEqDiff, Nat.reduceAdd, Nat.reduceMul, Nat.reduceSub, Nat.zero_add, Nat.add_zero, Nat.mul_one, List.map_toArray, List.map_cons, List.map_nil, reduceCtorEq, Int.toNat_natCast, List.getElem?_toArray, List.getElem?_cons_zero, List.getElem?_cons_succ, Bool.not_true, Bool.not_false, bop_lss, bop_leq, bop_gtr, bop_geq, bop_eql, bop_neq, bop_add, bop_sub, bop_mul, bop_and, bop_or, bop_xor, bop_andNot, oc, List.cons_append, List.nil_append, esz30, one5, Int.reduceToNat, c0, c1, c2, c3, ikd5_174, w, s0, s1, s2, o1, o2, o3, er]
  refine ⟨⟨by omega, by omega⟩, ⟨by omega, by omega⟩, ⟨by omega, by omega⟩, ⟨by omega, by omega⟩, ?_⟩
  (refine hK _ _ ?_; clear hK; try clear K)
  refine Wc_ret ?_
  simp only [true_and, fin, resV, ↓ev_tmp, ↓lk_cons, ↓reduceIte, Nat.reduceLT, Nat.reduceEqDiff, List.cons_append, List.nil_append, res125]

theorem or_u64 (a k i : Nat) (ha : a < 2 ^ i) (h : 2 ^ i * k + a < 18446744073709551616) : bits .or .u64 ((2 ^ i * k : Nat) : Int) (a : Int) = ((2 ^ i * k + a : Nat) : Int) := by
  rw [u64_or_nat (2 ^ i * k) a (by omega) (by omega), ← Nat.two_pow_add_eq_or_of_lt ha]

/-- the number of eight bytes, the highest first -/
def be8 (y : Nat → Nat) : Nat := (y 0 * 16777216 + y 1 * 65536 + y 2 * 256 + y 3) * 4294967296 + (y 4 * 16777216 + y 5 * 65536 + y 6 * 256 + y 7)

theorem beUint64_inv (w0 : World) {h : Hp} {bb off n c : Nat} {y : Nat → Nat} (hn : 8 ≤ n) (hnc : n ≤ c) (hc : ∀ j, j < 8 → cel h ⟨bb, off + j, none⟩ = some (.int .u8 (y j : Nat))) (hy : ∀ j, y j < 256) :
    Inv Try.prog w0 124 #[.slice (some ⟨bb, off, none⟩) n c] h fun v h' => v = .int .u64 (be8 y) ∧ h' = h := by
  have b0 := hy 0
  have b1 := hy 1
  have b2 := hy 2
  have b3 := hy 3
  have b4 := hy 4
  have b5 := hy 5
  have b6 := hy 6
  have b7 := hy 7
  have c7 := hc 7 (by omega)
  have hc4 : (c = 4) = False := by simp; omega
  obtain ⟨p, hp⟩ : ∃ p, p = y 0 * 16777216 + y 1 * 65536 + y 2 * 256 + y 3 := ⟨_, rfl⟩
  obtain ⟨q, hq⟩ : ∃ q, q = y 4 * 16777216 + y 5 * 65536 + y 6 * 256 + y 7 := ⟨_, rfl⟩
  have i1 := beUint32_inv w0 (n := n) (c := c) (by omega) (fun j hj => hc j (by omega)) hy
  have i2 := beUint32_inv w0 (h := h) (bb := bb) (off := off + 4) (n := n - 4) (c := c - 4) (y := fun j => y (j + 4)) (by omega) (fun j hj => by rw [Nat.add_assoc, Nat.add_comm 4 j]; exact hc (j + 4) (by omega)) (fun j => hy _)
  simp only [Nat.zero_add] at i2
  rw [← hp] at i1
  rw [show y 4 * 16777216 + y (1 + 4) * 65536 + y (2 + 4) * 256 + y (3 + 4) = q from hq.symm] at i2
  have w : ∀ r : Nat, r < 4294967296 → IntKind.u64.wrap (r : Int) = (r : Int) := fun r hr => by rw [IntKind.wrap_u64]; omega
  have wp := w p (by omega)
  have wq := w q (by omega)
  have sp : sh .shl (.int .u64 (p : Int)) (.int .u64 32) = some (.int .u64 ((2 ^ 32 * p : Nat) : Int)) := by
    have e : min (Int.toNat 32) IntKind.u64.bits = 32 := by decide
    rw [sh_shl (by decide), e, IntKind.wrap_u64]
    congr 2
    omega
  have o := or_u64 q p 32 (by omega) (by omega)
  have er : 2 ^ 32 * p + q = be8 y := by unfold be8; omega
  refine Inv_of_Wc (args := [_]) Try.func124 rfl Try.ntmps124 (Nat.le_of_ble_eq_true rfl) hb124 ?_
  refine Wc_seq_k fun K hK => ?_
  refine Wc_plain [] rfl ?_
  simp only [true_and, vc_nil, ↓vc_move, ↓vc_assign, ↓vc_pick, ↓vc_nilCheck, ↓vc_bin, ↓vc_un, ↓vc_conv, ↓vc_extract, ↓vc_fieldAddr, ↓vc_len, ↓vc_cap, ↓vc_indexAddr, ↓vc_slice0, ↓vc_sliceH, ↓vc_sliceL, ↓vc_sliceB, ↓vc_load2, ↓vc_load1, ↓vc_store2, ↓vc_store1, ↓vc_call2, ↓vc_callW, ↓vc_callQ, ↓vc_guard, ↓ev_tmp, ↓ev_const, ↓ev_func, ↓lk_cons, ↓putL_some, ↓putL_none, ↓List.headD_nil, ↓List.tail_nil, ↓List.headD_cons, ↓List.tail_cons, thn, enumL, ↓reduceIte, Nat.reduceLT, Nat.reduceLeDiff, Nat.reduceEqDiff, Nat.reduceAdd, Nat.reduceMul, Nat.reduceSub, Nat.zero_add, Nat.add_zero, Nat.mul_one, List.map_toArray, List.map_cons, List.map_nil, reduceCtorEq, Int.toNat_natCast, List.getElem?_toArray, List.getElem?_cons_zero, List.getElem?_cons_succ, Bool.not_true, Bool.not_false, bop_lss, bop_leq, bop_gtr, bop_geq, bop_eql, bop_neq, bop_add, bop_sub, bop_mul, bop_and, bop_or, bop_xor, bop_andNot, oc, List.cons_append, List.nil_append]
  (refine hK _ _ ?_; clear hK; try clear K)
  refine Wc_seq_k fun K hK => ?_
  refine Wc_plain [] rfl ?_
  simp only [true_and, vc_nil, ↓vc_move, ↓vc_assign, ↓vc_pick, ↓vc_nilCheck, ↓vc_bin, ↓vc_un, ↓vc_conv, ↓vc_extract, ↓vc_fieldAddr, ↓vc_len, ↓vc_cap, ↓vc_indexAddr, ↓vc_slice0, ↓vc_sliceH, ↓vc_sliceL, ↓vc_sliceB, ↓vc_load2, ↓vc_load1, ↓vc_store2, ↓vc_store1, ↓vc_call2, ↓vc_callW, ↓vc_callQ, ↓vc_guard, ↓ev_tmp, ↓ev_const, ↓ev_func, ↓lk_cons, ↓putL_some, ↓putL_none, ↓List.headD_nil, ↓List.tail_nil, ↓List.headD_cons, ↓List.tail_cons, thn, enumL, ↓reduceIte, Nat.reduceLT, Nat.reduceLeDiff, Nat.reduceEqDiff, Nat.reduceAdd, Nat.reduceMul, Nat.reduceSub, Nat.zero_add, Nat.add_zero, Nat.mul_one, List.map_toArray, List.map_cons, List.map_nil, reduceCtorEq, Int.toNat_natCast, List.getElem?_toArray, List.getElem?_cons_zero, List.getElem?_cons_succ, Bool.not_true, Bool.not_false, bop_lss, bop_leq, bop_gtr, bop_geq, bop_eql, bop_neq, bop_add, bop_sub, bop_mul, bop_and, bop_or, bop_xor, bop_andNot, oc, List.cons_append, List.nil_append, esz30, one5, Int.reduceToNat, c7]
  try refine ⟨⟨by omega, by omega⟩, ?_⟩
  (refine hK _ _ ?_; clear hK; try clear K)
  refine Wc_seq_k fun K hK => ?_
  refine Wc_draw [] [0, 2, 0, 0, 0, 0, 2, 0, 0, 0] rfl mixed (by kernel_rfl) ?_
  simp only [true_and, vc_nil, ↓vc_move, ↓vc_assign, ↓vc_pick, ↓vc_nilCheck, ↓vc_bin, ↓vc_un, ↓vc_conv, ↓vc_extract, ↓vc_fieldAddr, ↓vc_len, ↓vc_cap, ↓vc_indexAddr, ↓vc_slice0, ↓vc_sliceH, ↓vc_sliceL, ↓vc_sliceB, ↓vc_load2, ↓vc_load1, ↓vc_store2, ↓vc_store1, ↓vc_call2, ↓vc_callW, ↓vc_callQ, ↓vc_guard, ↓ev_tmp, ↓ev_const, ↓ev_func, ↓lk_cons, ↓putL_some, ↓putL_none, ↓List.headD_nil, ↓List.tail_nil, ↓List.headD_cons, ↓List.tail_cons, thn, enumL, ↓reduceIte, Nat.reduceLT, Nat.reduceLeDiff, Nat.reduceEqDiff, Nat.reduceAdd, Nat.reduceMul, Nat.reduceSub, Nat.zero_add, Nat.add_zero, Nat.mul_one, List.map_toArray, List.map_cons, List.map_nil, reduceCtorEq, Int.toNat_natCast, List.getElem?_toArray, List.getElem?_cons_zero, List.getElem?_cons_succ, Bool.not_true, Bool.not_false, bop_lss, bop_leq, bop_gtr, bop_geq, bop_eql, bop_neq, bop_add, bop_sub, bop_mul, bop_and, bop_or, bop_xor, bop_andNot, oc, List.cons_append, List.nil_append]
  refine i1.mono ?_
  rintro v h' ⟨rfl, rfl⟩
  simp only [true_and, vc_nil, ↓vc_move, ↓vc_assign, ↓vc_pick, ↓vc_nilCheck, ↓vc_bin, ↓vc_un, ↓vc_conv, ↓vc_extract, ↓vc_fieldAddr, ↓vc_len, ↓vc_cap, ↓vc_indexAddr, ↓vc_slice0, ↓vc_sliceH, ↓vc_sliceL, ↓vc_sliceB, ↓vc_load2, ↓vc_load1, ↓vc_store2, ↓vc_store1, ↓vc_call2, ↓vc_callW, ↓vc_callQ, ↓vc_guard, ↓ev_tmp, ↓ev_const, ↓ev_func, ↓lk_cons, ↓putL_some, ↓putL_none, ↓List.headD_nil, ↓List.tail_nil, ↓List.headD_cons, ↓List.tail_cons, thn, enumL, ↓reduceIte, Nat.reduceLT, Nat.reduceLeDiff, Nat.reduceEqDiff, Nat.reduceAdd, Nat.reduceMul, Nat.reduceSub, Nat.zero_add, Nat.add_zero, Nat.mul_one, List.map_toArray, List.map_cons, List.map_nil, reduceCtorEq, Int.toNat_natCast, List.getElem?_toArray, List.getElem?_cons_zero, List.getElem?_cons_succ, Bool.not_true, Bool.not_false, bop_lss, bop_leq, bop_gtr, bop_geq, bop_eql, bop_neq, bop_add, bop_sub, bop_mul, bop_and, bop_or, bop_xor, bop_andNot, oc, List.cons_append, List.nil_append, ikd174_110, wp, sp, esz30, Int.reduceToNat, hc4]
  refine ⟨⟨by omega, by omega⟩, i2.mono ?_⟩
  rintro v h2 ⟨rfl, rfl⟩
  simp only [true_and, vc_nil, ↓vc_move, ↓vc_assign, ↓vc_pick, ↓vc_nilCheck, ↓vc_bin, ↓vc_un, ↓vc_conv, ↓vc_extract, ↓vc_fieldAddr, ↓vc_len, ↓vc_cap, ↓vc_indexAddr, ↓vc_slice0, ↓vc_sliceH, ↓vc_sliceL, ↓vc_sliceB, ↓vc_load2, ↓vc_load1, ↓vc_store2, ↓vc_store1, ↓vc_call2, ↓vc_callW, ↓vc_callQ, ↓vc_guard, ↓ev_tmp, ↓ev_const, ↓ev_func, ↓lk_cons, ↓putL_some, ↓putL_none, ↓List.headD_nil, ↓List.tail_nil, ↓List.headD_cons, ↓List.tail_cons, thn, enumL, ↓reduceIte, Nat.reduceLT, Nat.reduceLeDiff, Nat.reduceEqDiff, Nat.reduceAdd, Nat.reduceMul, Nat.reduceSub, Nat.zero_add, Nat.add_zero, Nat.mul_one, List.map_toArray, List.map_cons, List.map_nil, reduceCtorEq, Int.toNat_natCast, List.getElem?_toArray, List.getElem?_cons_zero, List.getElem?_cons_succ, Bool.not_true, Bool.not_false, bop_lss, bop_leq, bop_gtr, bop_geq, bop_eql, bop_neq, bop_add, bop_sub, bop_mul, bop_and, bop_or, bop_xor, bop_andNot, oc, List.cons_append, List.nil_append, ikd174_110, wq, o, er]
  (refine hK _ _ ?_; clear hK; try clear K)
  refine Wc_ret ?_
  simp only [true_and, fin, resV, ↓ev_tmp, ↓lk_cons, ↓reduceIte, Nat.reduceLT, Nat.reduceEqDiff, List.cons_append, List.nil_append, res124]
end Go.Proofs.Ytfakfllmbfjofaa
