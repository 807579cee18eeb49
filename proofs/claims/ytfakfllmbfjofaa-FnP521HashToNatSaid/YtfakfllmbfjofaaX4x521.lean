/- spec: Leftmost, HashNumber (521 bits): what they compute. -/
import Derived.Test.YtfakfllmbfjofaaX3x521
open Go Go.Fl
namespace Go.Proofs.Ytfakfllmbfjofaa
set_option linter.unusedSimpArgs false
set_option linter.unusedVariables false
set_option maxRecDepth 100000

/-- bytes, the highest first, moved by 7 bits to the right -/
def y7 (y : Nat → Nat) (j : Nat) : Nat := if 0 < j then y j / 128 + 2 * y (j - 1) % 256 else y j / 128
theorem y7_lt {y : Nat → Nat} (hy : ∀ j, y j < 256) (j : Nat) : y7 y j < 256 := by
  have h1 := hy j
  have h2 := hy (j - 1)
  unfold y7
  split <;> omega
theorem sF_y7 {y : Nat → Nat} (hy : ∀ j, y j < 256) (j : Nat) : sF 7 (fun j => (y j : Int)) j = (y7 y j : Int) := by
  have h1 := hy j
  have h2 := hy (j - 1)
  have e1 : s1 7 (y j : Int) = ((y j / 128 : Nat) : Int) := by
    show (y j : Int).fdiv 128 = _
    rw [Int.fdiv_eq_ediv_of_nonneg _ (by decide)]; rfl
  have e2 : IntKind.u8.wrap ((y (j - 1) : Int) * 2 ^ (min (8 - 7 : Int).toNat IntKind.u8.bits)) = ((2 ^ 1 * (y (j - 1) % 128) : Nat) : Int) := by
    show IntKind.u8.wrap ((y (j - 1) : Int) * 2) = _
    rw [IntKind.wrap_u8]; omega
  unfold sF y7
  split
  · unfold s2
    rw [e1, e2, u8_or_nat _ _ (by omega) (by omega), Nat.or_comm, ← Nat.two_pow_add_eq_or_of_lt (by omega)]
    omega
  · exact e1

/-- the bytes of the number of a hash, the lowest first -/
def hz521 (n : Nat) (y : Nat → Nat) : Nat → Nat := if 66 ≤ n then zb (y7 y) 66 else zb y n

/-- bytes behind lo zeros -/
def wd521 (y : Nat → Nat) (lo j : Nat) : Nat := if lo ≤ j ∧ j < 66 then y (j - lo) else 0
theorem zb_wd521 {y : Nat → Nat} {lo m : Nat} (h : lo + m = 66) : zb (wd521 y lo) 66 = zb y m := funext fun t => by
  unfold zb wd521
  by_cases h1 : t < 66
  · rw [if_pos h1]
    by_cases h2 : t < m
    · rw [if_pos h2, if_pos (by omega)]; congr 1; omega
    · rw [if_neg h2, if_neg (by omega)]
  · rw [if_neg h1, if_neg (by omega)]
theorem zb_y7 {y : Nat → Nat} : zb (y7 (wd521 y 0)) 66 = zb (y7 y) 66 := funext fun t => by
  unfold zb
  by_cases h1 : t < 66
  · rw [if_pos h1, if_pos h1]
    unfold y7 wd521
    rw [if_pos (show 0 ≤ 66 - 1 - t ∧ 66 - 1 - t < 66 by omega), if_pos (show 0 ≤ 66 - 1 - t - 1 ∧ 66 - 1 - t - 1 < 66 by omega), Nat.sub_zero, Nat.sub_zero]
  · rw [if_neg h1, if_neg h1]

theorem Leftmost_inv521 (w0 : World) {h : Hp} {bf kf n : Nat} {vb : Value} {y : Nat → Nat} (hb : Rd .u8 h vb n (fun j => (y j : Int))) (hy : ∀ j, y j < 256) (hn : n ≤ 1000000) :
    Inv Try.prog w0 47 #[.agg #[.int .i64 521, .int .i64 66, .int .i64 17, .slice (some ⟨bf, 0, none⟩) kf kf], vb] h fun v h' =>
      ∃ W : Nat → Nat, (∀ j, W j < 256) ∧ zb W 66 = hz521 n y ∧ Rd .i64 h' v 17 (fun j => (wz W 66 j : Int)) ∧ Ch [] h h' := by
  have hb0 := hb
  obtain ⟨ab, cb, rfl, hb1, hb2, hb3⟩ := hb
  refine Inv_of_Wc (args := [_, _]) Try.func47 rfl Try.ntmps47 (Nat.le_of_ble_eq_true rfl) hb47 ?_
  refine Wc_seq_k fun K hK => ?_
  refine Wc_plain [] rfl ?_
  simp only [true_and, vc_nil, ↓vc_move, ↓vc_assign, ↓vc_pick, ↓vc_nilCheck, ↓vc_bin, ↓vc_un, ↓vc_conv, ↓vc_extract, ↓vc_fieldAddr, ↓vc_len, ↓vc_cap, ↓vc_indexAddr, ↓vc_slice0, ↓vc_sliceH, ↓vc_sliceL, ↓vc_sliceB, ↓vc_load2, ↓vc_load1, ↓vc_store2, ↓vc_store1, ↓vc_call2, ↓vc_callW, ↓vc_callQ, ↓vc_guard, ↓ev_tmp, ↓ev_const, ↓ev_func, ↓lk_cons, ↓putL_some, ↓putL_none, ↓List.headD_nil, ↓List.tail_nil, ↓List.headD_cons, ↓List.tail_cons, thn, enumL, ↓reduceIte, Nat.reduceLT, Nat.reduceLeDiff, Nat.reduceEqDiff, Nat.reduceAdd, Nat.reduceMul, Nat.reduceSub, Nat.zero_add, Nat.add_zero, Nat.mul_one, List.map_toArray, List.map_cons, List.map_nil, reduceCtorEq, Int.toNat_natCast, List.getElem?_toArray, List.getElem?_cons_zero, List.getElem?_cons_succ, Bool.not_true, Bool.not_false, bop_lss, bop_leq, bop_gtr, bop_geq, bop_eql, bop_neq, bop_add, bop_sub, bop_mul, bop_and, bop_or, bop_xor, bop_andNot, oc, List.cons_append, List.nil_append, vc_box2]
  refine Ro_box rfl ?_
  simp only [true_and, vc_nil, ↓vc_move, ↓vc_assign, ↓vc_pick, ↓vc_nilCheck, ↓vc_bin, ↓vc_un, ↓vc_conv, ↓vc_extract, ↓vc_fieldAddr, ↓vc_len, ↓vc_cap, ↓vc_indexAddr, ↓vc_slice0, ↓vc_sliceH, ↓vc_sliceL, ↓vc_sliceB, ↓vc_load2, ↓vc_load1, ↓vc_store2, ↓vc_store1, ↓vc_call2, ↓vc_callW, ↓vc_callQ, ↓vc_guard, ↓ev_tmp, ↓ev_const, ↓ev_func, ↓lk_cons, ↓putL_some, ↓putL_none, ↓List.headD_nil, ↓List.tail_nil, ↓List.headD_cons, ↓List.tail_cons, thn, enumL, ↓reduceIte, Nat.reduceLT, Nat.reduceLeDiff, Nat.reduceEqDiff, Nat.reduceAdd, Nat.reduceMul, Nat.reduceSub, Nat.zero_add, Nat.add_zero, Nat.mul_one, List.map_toArray, List.map_cons, List.map_nil, reduceCtorEq, Int.toNat_natCast, List.getElem?_toArray, List.getElem?_cons_zero, List.getElem?_cons_succ, Bool.not_true, Bool.not_false, bop_lss, bop_leq, bop_gtr, bop_geq, bop_eql, bop_neq, bop_add, bop_sub, bop_mul, bop_and, bop_or, bop_xor, bop_andNot, oc, List.cons_append, List.nil_append]
  show K _ (h.push (.cells #[.int .i64 521, .int .i64 66, .int .i64 17, .slice (some ⟨bf, 0, none⟩) kf kf] 24 (0, 0)))
  have k1 := Ch.push [] h (.cells #[.int .i64 521, .int .i64 66, .int .i64 17, .slice (some ⟨bf, 0, none⟩) kf kf] 24 (0, 0))
  have r1 := rowOf_push h #[.int .i64 521, .int .i64 66, .int .i64 17, .slice (some ⟨bf, 0, none⟩) kf kf] 24
  generalize h.push (.cells #[.int .i64 521, .int .i64 66, .int .i64 17, .slice (some ⟨bf, 0, none⟩) kf kf] 24 (0, 0)) = h1 at k1 r1 ⊢
  (refine hK _ _ ?_; clear hK; try clear K)
  refine Wc_seq_k fun Ko hKo => ?_
  have key : ∀ (L : FL) (am : Option Addr) (m cm lo : Nat), lk L 1 = .slice am m cm → lk L 2 = .pointer (some ⟨h.size, 0, none⟩) → Rd .u8 h1 (.slice am m cm) m (fun j => (y j : Int)) → m = min n 66 → lo + m = 66 → Ko L h1 := by
    intro L am m cm lo l1 l2 hm hmn hlo
    (refine hKo _ _ ?_; clear hKo; try clear Ko)
    refine Wc_seq_k fun K hK => ?_
    refine Wc_plain [] rfl ?_
    simp only [true_and, vc_nil, ↓vc_move, ↓vc_assign, ↓vc_pick, ↓vc_nilCheck, ↓vc_bin, ↓vc_un, ↓vc_conv, ↓vc_extract, ↓vc_fieldAddr, ↓vc_len, ↓vc_cap, ↓vc_indexAddr, ↓vc_slice0, ↓vc_sliceH, ↓vc_sliceL, ↓vc_sliceB, ↓vc_load2, ↓vc_load1, ↓vc_store2, ↓vc_store1, ↓vc_call2, ↓vc_callW, ↓vc_callQ, ↓vc_guard, ↓ev_tmp, ↓ev_const, ↓ev_func, ↓lk_cons, ↓putL_some, ↓putL_none, ↓List.headD_nil, ↓List.tail_nil, ↓List.headD_cons, ↓List.tail_cons, thn, enumL, ↓reduceIte, Nat.reduceLT, Nat.reduceLeDiff, Nat.reduceEqDiff, Nat.reduceAdd, Nat.reduceMul, Nat.reduceSub, Nat.zero_add, Nat.add_zero, Nat.mul_one, List.map_toArray, List.map_cons, List.map_nil, reduceCtorEq, Int.toNat_natCast, List.getElem?_toArray, List.getElem?_cons_zero, List.getElem?_cons_succ, Bool.not_true, Bool.not_false, bop_lss, bop_leq, bop_gtr, bop_geq, bop_eql, bop_neq, bop_add, bop_sub, bop_mul, bop_and, bop_or, bop_xor, bop_andNot, oc, List.cons_append, List.nil_append, vc_make, l2, foff24_1, one3, cel_row r1]
    refine Ro_make rfl mki30 rfl rfl (by decide) (by decide) (by decide) (by decide) ?_
    simp only [Int.reduceToNat]
    rw [show Array.replicate 66 (Value.int .u8 (Int.ofNat 0)) = RI .u8 (fun _ => 0) 66 from RI_replicate _ _ _]
    have k2 := Ch.push [] h1 (.cells (RI .u8 (fun _ => 0) 66) 5 (0, 0))
    have r2 := rowOf_push h1 (RI .u8 (fun _ => 0) 66) 5
    generalize h1.push (.cells (RI .u8 (fun _ => 0) 66) 5 (0, 0)) = h2 at k2 r2 ⊢
    (refine hK _ _ ?_; clear hK; try clear K)
    have q1 := row_lt r1
    have r12 := k2.row r1 (by simp)
    have wlo : IntKind.i64.wrap ((66 : Int) - (m : Int)) = (lo : Int) := by rw [wrap_i64_id (by omega) (by omega)]; omega
    refine Wc_seq_k fun K hK => ?_
    refine Wc_plain [] rfl ?_
    simp only [true_and, vc_nil, ↓vc_move, ↓vc_assign, ↓vc_pick, ↓vc_nilCheck, ↓vc_bin, ↓vc_un, ↓vc_conv, ↓vc_extract, ↓vc_fieldAddr, ↓vc_len, ↓vc_cap, ↓vc_indexAddr, ↓vc_slice0, ↓vc_sliceH, ↓vc_sliceL, ↓vc_sliceB, ↓vc_load2, ↓vc_load1, ↓vc_store2, ↓vc_store1, ↓vc_call2, ↓vc_callW, ↓vc_callQ, ↓vc_guard, ↓ev_tmp, ↓ev_const, ↓ev_func, ↓lk_cons, ↓putL_some, ↓putL_none, ↓List.headD_nil, ↓List.tail_nil, ↓List.headD_cons, ↓List.tail_cons, thn, enumL, ↓reduceIte, Nat.reduceLT, Nat.reduceLeDiff, Nat.reduceEqDiff, Nat.reduceAdd, Nat.reduceMul, Nat.reduceSub, Nat.zero_add, Nat.add_zero, Nat.mul_one, List.map_toArray, List.map_cons, List.map_nil, reduceCtorEq, Int.toNat_natCast, List.getElem?_toArray, List.getElem?_cons_zero, List.getElem?_cons_succ, Bool.not_true, Bool.not_false, bop_lss, bop_leq, bop_gtr, bop_geq, bop_eql, bop_neq, bop_add, bop_sub, bop_mul, bop_and, bop_or, bop_xor, bop_andNot, oc, List.cons_append, List.nil_append, l1, l2, foff24_1, one3, cel_row r12, isl30, wlo, esz30, vc_copy2]
    refine ⟨⟨by omega, by omega⟩, ?_⟩
    refine Ro_copy (s := m) (ys := fun j => (y j : Int)) rfl mki30 rfl r2 (hm.kp k2.kp) (by split <;> omega) ?_
    have ew : RI .u8 (fun j => if (if 66 = lo then 0 else lo) ≤ j ∧ j < (if 66 = lo then 0 else lo) + min m (66 - lo) then (y (j - (if 66 = lo then 0 else lo)) : Int) else 0) 66 = RI .u8 (fun j => (wd521 y lo j : Int)) 66 := RI_congr fun j hj => by
      unfold wd521
      by_cases h1 : 66 = lo
      · rw [if_pos h1, if_neg (by omega), if_neg (by omega)]; rfl
      · rw [if_neg h1]
        by_cases h2 : lo ≤ j
        · rw [if_pos (by omega), if_pos (by omega)]
        · rw [if_neg (by omega), if_neg (by omega)]; rfl
    rw [ew]
    have r3 := rowOf_hset_self (c := RI .u8 (fun j => (wd521 y lo j : Int)) 66) (T := 5) r2
    have k3 : Ch [] h (hset h2 h1.size (RI .u8 (fun j => (wd521 y lo j : Int)) 66) 5) := (((k1.trans k2).sub (C := [h1.size]) (by simp)).trans (Ch.hset _ _ _ (by simp))).new (fun i hi => .inr (by have := k1.1; simp at hi; omega))
    have r13 := (rowOf_hset_ne (RI .u8 (fun j => (wd521 y lo j : Int)) 66) 5 (show h1.size ≠ h.size by omega)).trans r12
    generalize hset h2 h1.size (RI .u8 (fun j => (wd521 y lo j : Int)) 66) 5 = h3 at r3 k3 r13 ⊢
    have hW : ∀ j, wd521 y lo j < 256 := fun j => ite_lt (hy _) (by decide)
    have rd3 : Rd .u8 h3 (.slice (some ⟨h1.size, 0, none⟩) 66 66) 66 (fun j => (wd521 y lo j : Int)) := ⟨_, _, rfl, Nat.le_refl _, fun e => (by cases e), fun _ => ⟨h1.size, 0, rfl, fun j hj => by rw [cel_row r3, Nat.zero_add, RI_get hj]⟩⟩
    have q13 := row_lt r13
    (refine hK _ _ ?_; clear hK; try clear K)
    have g32 : (32 : Int) < ((47 : Nat) : Int) := by decide
    have rem8 : Int.tmod 521 8 = 1 := by decide
    refine Wc_seq_k fun Kq hKq => ?_
    have key2 : ∀ (L : FL) (h4 : Hp) (va : Value) (W : Nat → Nat), lk L 5 = va → lk L 2 = .pointer (some ⟨h.size, 0, none⟩) → Rd .u8 h4 va 66 (fun j => (W j : Int)) → (∀ j, W j < 256) → zb W 66 = hz521 n y → Ch [] h3 h4 → Kq L h4 := by
      intro L h4 va W l5 l2' hrd hWl hzz k4
      (refine hKq _ _ ?_; clear hKq; try clear Kq)
      have r14 := k4.row r13 (by simp)
      refine Wc_seq_k fun K hK => ?_
      refine Wc_plainC [] [6, 2, 2, 2] rfl ?_
      simp only [true_and, vc_nil, ↓vc_move, ↓vc_assign, ↓vc_pick, ↓vc_nilCheck, ↓vc_bin, ↓vc_un, ↓vc_conv, ↓vc_extract, ↓vc_fieldAddr, ↓vc_len, ↓vc_cap, ↓vc_indexAddr, ↓vc_slice0, ↓vc_sliceH, ↓vc_sliceL, ↓vc_sliceB, ↓vc_load2, ↓vc_load1, ↓vc_store2, ↓vc_store1, ↓vc_call2S, ↓vc_callWS, ↓vc_callQS, ↓vc_guard, ↓ev_tmp, ↓ev_const, ↓ev_func, ↓lk_cons, ↓putL_some, ↓putL_none, ↓List.headD_nil, ↓List.tail_nil, ↓List.headD_cons, ↓List.tail_cons, thn, enumL, ↓reduceIte, Nat.reduceLT, Nat.reduceLeDiff, Nat.reduceEqDiff, Nat.reduceAdd, Nat.reduceMul, Nat.reduceSub, Nat.zero_add, Nat.add_zero, Nat.mul_one, List.map_toArray, List.map_cons, List.map_nil, reduceCtorEq, Int.toNat_natCast, List.getElem?_toArray, List.getElem?_cons_zero, List.getElem?_cons_succ, Bool.not_true, Bool.not_false, bop_lss, bop_leq, bop_gtr, bop_geq, bop_eql, bop_neq, bop_add, bop_sub, bop_mul, bop_and, bop_or, bop_xor, bop_andNot, oc, List.cons_append, List.nil_append, vc_load6]
      refine Ro_of_Rs (Rs_loadrow rfl l2' r14 rt24x521 rfl) (vcS_intro ?_)
      simp only [true_and, vc_nil, ↓vc_move, ↓vc_assign, ↓vc_pick, ↓vc_nilCheck, ↓vc_bin, ↓vc_un, ↓vc_conv, ↓vc_extract, ↓vc_fieldAddr, ↓vc_len, ↓vc_cap, ↓vc_indexAddr, ↓vc_slice0, ↓vc_sliceH, ↓vc_sliceL, ↓vc_sliceB, ↓vc_load2, ↓vc_load1, ↓vc_store2, ↓vc_store1, ↓vc_call2S, ↓vc_callWS, ↓vc_callQS, ↓vc_guard, ↓ev_tmp, ↓ev_const, ↓ev_func, ↓lk_cons, ↓putL_some, ↓putL_none, ↓List.headD_nil, ↓List.tail_nil, ↓List.headD_cons, ↓List.tail_cons, thn, enumL, ↓reduceIte, Nat.reduceLT, Nat.reduceLeDiff, Nat.reduceEqDiff, Nat.reduceAdd, Nat.reduceMul, Nat.reduceSub, Nat.zero_add, Nat.add_zero, Nat.mul_one, List.map_toArray, List.map_cons, List.map_nil, reduceCtorEq, Int.toNat_natCast, List.getElem?_toArray, List.getElem?_cons_zero, List.getElem?_cons_succ, Bool.not_true, Bool.not_false, bop_lss, bop_leq, bop_gtr, bop_geq, bop_eql, bop_neq, bop_add, bop_sub, bop_mul, bop_and, bop_or, bop_xor, bop_andNot, oc, List.cons_append, List.nil_append, l5]
      refine (Number_inv w0 hrd hWl (by decide) (by decide) (by decide)).mono ?_
      rintro v h5 ⟨bo, rfl, r5, k5, g5⟩
      refine vcS_intro ?_
      simp only [true_and, vc_nil, ↓vc_move, ↓vc_assign, ↓vc_pick, ↓vc_nilCheck, ↓vc_bin, ↓vc_un, ↓vc_conv, ↓vc_extract, ↓vc_fieldAddr, ↓vc_len, ↓vc_cap, ↓vc_indexAddr, ↓vc_slice0, ↓vc_sliceH, ↓vc_sliceL, ↓vc_sliceB, ↓vc_load2, ↓vc_load1, ↓vc_store2, ↓vc_store1, ↓vc_call2S, ↓vc_callWS, ↓vc_callQS, ↓vc_guard, ↓ev_tmp, ↓ev_const, ↓ev_func, ↓lk_cons, ↓putL_some, ↓putL_none, ↓List.headD_nil, ↓List.tail_nil, ↓List.headD_cons, ↓List.tail_cons, thn, enumL, ↓reduceIte, Nat.reduceLT, Nat.reduceLeDiff, Nat.reduceEqDiff, Nat.reduceAdd, Nat.reduceMul, Nat.reduceSub, Nat.zero_add, Nat.add_zero, Nat.mul_one, List.map_toArray, List.map_cons, List.map_nil, reduceCtorEq, Int.toNat_natCast, List.getElem?_toArray, List.getElem?_cons_zero, List.getElem?_cons_succ, Bool.not_true, Bool.not_false, bop_lss, bop_leq, bop_gtr, bop_geq, bop_eql, bop_neq, bop_add, bop_sub, bop_mul, bop_and, bop_or, bop_xor, bop_andNot, oc, List.cons_append, List.nil_append]
      (refine hK _ _ ?_; clear hK; try clear K)
      refine Wc_ret ?_
      simp only [true_and, fin, resV, ↓ev_tmp, ↓lk_cons, ↓reduceIte, Nat.reduceLT, Nat.reduceEqDiff, List.cons_append, List.nil_append, res47]
      exact ⟨W, hWl, hzz, ⟨_, _, rfl, Nat.le_refl _, fun e => (by cases e), fun _ => ⟨bo, 0, rfl, fun j hj => by rw [cel_row r5, Nat.zero_add, RI_get hj]⟩⟩, (k3.trans k4).trans k5⟩
    refine Wc_seq_k fun K hK => ?_
    refine Wc_plain [(5, .int .i64 32)] rfl ?_
    by_cases hmS : m = 66
    · have d1 : ((m : Int) == 66) = true := by simp; omega
      simp only [true_and, vc_nil, ↓vc_move, ↓vc_assign, ↓vc_pick, ↓vc_nilCheck, ↓vc_bin, ↓vc_un, ↓vc_conv, ↓vc_extract, ↓vc_fieldAddr, ↓vc_len, ↓vc_cap, ↓vc_indexAddr, ↓vc_slice0, ↓vc_sliceH, ↓vc_sliceL, ↓vc_sliceB, ↓vc_load2, ↓vc_load1, ↓vc_store2, ↓vc_store1, ↓vc_call2, ↓vc_callW, ↓vc_callQ, ↓vc_guard, ↓ev_tmp, ↓ev_const, ↓ev_func, ↓lk_cons, ↓putL_some, ↓putL_none, ↓List.headD_nil, ↓List.tail_nil, ↓List.headD_cons, ↓List.tail_cons, thn, enumL, ↓reduceIte, Nat.reduceLT, Nat.reduceLeDiff, Nat.reduceEqDiff, Nat.reduceAdd, Nat.reduceMul, Nat.reduceSub, Nat.zero_add, Nat.add_zero, Nat.mul_one, List.map_toArray, List.map_cons, List.map_nil, reduceCtorEq, Int.toNat_natCast, List.getElem?_toArray, List.getElem?_cons_zero, List.getElem?_cons_succ, Bool.not_true, Bool.not_false, bop_lss, bop_leq, bop_gtr, bop_geq, bop_eql, bop_neq, bop_add, bop_sub, bop_mul, bop_and, bop_or, bop_xor, bop_andNot, oc, List.cons_append, List.nil_append, l1, l2, isl30, foff24_1, foff24_0, one3, cel_row r13, d1, g32, Int.reduceToNat, bop_rem _ (show (8 : Int) ≠ 0 by decide), rem8]
      (refine hK _ _ ?_; clear hK; try clear K)
      refine Wc_cond (t := true) rfl (fun _ => ?_) (fun hf => by cases hf)
      have hlo0 : lo = 0 := by omega
      subst hlo0
      refine Wc_plain [] rfl ?_
      simp only [true_and, vc_nil, ↓vc_move, ↓vc_assign, ↓vc_pick, ↓vc_nilCheck, ↓vc_bin, ↓vc_un, ↓vc_conv, ↓vc_extract, ↓vc_fieldAddr, ↓vc_len, ↓vc_cap, ↓vc_indexAddr, ↓vc_slice0, ↓vc_sliceH, ↓vc_sliceL, ↓vc_sliceB, ↓vc_load2, ↓vc_load1, ↓vc_store2, ↓vc_store1, ↓vc_call2S, ↓vc_callWS, ↓vc_callQS, ↓vc_guard, ↓ev_tmp, ↓ev_const, ↓ev_func, ↓lk_cons, ↓putL_some, ↓putL_none, ↓List.headD_nil, ↓List.tail_nil, ↓List.headD_cons, ↓List.tail_cons, thn, enumL, ↓reduceIte, Nat.reduceLT, Nat.reduceLeDiff, Nat.reduceEqDiff, Nat.reduceAdd, Nat.reduceMul, Nat.reduceSub, Nat.zero_add, Nat.add_zero, Nat.mul_one, List.map_toArray, List.map_cons, List.map_nil, reduceCtorEq, Int.toNat_natCast, List.getElem?_toArray, List.getElem?_cons_zero, List.getElem?_cons_succ, Bool.not_true, Bool.not_false, bop_lss, bop_leq, bop_gtr, bop_geq, bop_eql, bop_neq, bop_add, bop_sub, bop_mul, bop_and, bop_or, bop_xor, bop_andNot, oc, List.cons_append, List.nil_append, foff24_0, one3, cel_row r13, l2, bop_rem _ (show (8 : Int) ≠ 0 by decide), rem8, show IntKind.i64.wrap (8 - 1) = 7 from rfl]
      refine (shifted_inv w0 h3 _ 66 _ 7 rd3 (by decide) (by decide) (by decide)).mono ?_
      rintro v h4 ⟨ow, kp⟩
      refine vcS_intro ?_
      simp only [true_and, vc_nil, ↓vc_move, ↓vc_assign, ↓vc_pick, ↓vc_nilCheck, ↓vc_bin, ↓vc_un, ↓vc_conv, ↓vc_extract, ↓vc_fieldAddr, ↓vc_len, ↓vc_cap, ↓vc_indexAddr, ↓vc_slice0, ↓vc_sliceH, ↓vc_sliceL, ↓vc_sliceB, ↓vc_load2, ↓vc_load1, ↓vc_store2, ↓vc_store1, ↓vc_call2S, ↓vc_callWS, ↓vc_callQS, ↓vc_guard, ↓ev_tmp, ↓ev_const, ↓ev_func, ↓lk_cons, ↓putL_some, ↓putL_none, ↓List.headD_nil, ↓List.tail_nil, ↓List.headD_cons, ↓List.tail_cons, thn, enumL, ↓reduceIte, Nat.reduceLT, Nat.reduceLeDiff, Nat.reduceEqDiff, Nat.reduceAdd, Nat.reduceMul, Nat.reduceSub, Nat.zero_add, Nat.add_zero, Nat.mul_one, List.map_toArray, List.map_cons, List.map_nil, reduceCtorEq, Int.toNat_natCast, List.getElem?_toArray, List.getElem?_cons_zero, List.getElem?_cons_succ, Bool.not_true, Bool.not_false, bop_lss, bop_leq, bop_gtr, bop_geq, bop_eql, bop_neq, bop_add, bop_sub, bop_mul, bop_and, bop_or, bop_xor, bop_andNot, oc, List.cons_append, List.nil_append]
      refine key2 _ _ v (y7 (wd521 y 0)) rfl l2 (Rd_congr ow.rd (fun j hj => ?_)) (y7_lt hW) ?_ (kp.ch [])
      · rw [if_pos hj]; exact sF_y7 hW j
      · rw [zb_y7]; unfold hz521; rw [if_pos (by omega)]
    · have d1 : ((m : Int) == 66) = false := by simp; omega
      simp only [true_and, vc_nil, ↓vc_move, ↓vc_assign, ↓vc_pick, ↓vc_nilCheck, ↓vc_bin, ↓vc_un, ↓vc_conv, ↓vc_extract, ↓vc_fieldAddr, ↓vc_len, ↓vc_cap, ↓vc_indexAddr, ↓vc_slice0, ↓vc_sliceH, ↓vc_sliceL, ↓vc_sliceB, ↓vc_load2, ↓vc_load1, ↓vc_store2, ↓vc_store1, ↓vc_call2, ↓vc_callW, ↓vc_callQ, ↓vc_guard, ↓ev_tmp, ↓ev_const, ↓ev_func, ↓lk_cons, ↓putL_some, ↓putL_none, ↓List.headD_nil, ↓List.tail_nil, ↓List.headD_cons, ↓List.tail_cons, thn, enumL, ↓reduceIte, Nat.reduceLT, Nat.reduceLeDiff, Nat.reduceEqDiff, Nat.reduceAdd, Nat.reduceMul, Nat.reduceSub, Nat.zero_add, Nat.add_zero, Nat.mul_one, List.map_toArray, List.map_cons, List.map_nil, reduceCtorEq, Int.toNat_natCast, List.getElem?_toArray, List.getElem?_cons_zero, List.getElem?_cons_succ, Bool.not_true, Bool.not_false, bop_lss, bop_leq, bop_gtr, bop_geq, bop_eql, bop_neq, bop_add, bop_sub, bop_mul, bop_and, bop_or, bop_xor, bop_andNot, oc, List.cons_append, List.nil_append, l1, l2, isl30, foff24_1, foff24_0, one3, cel_row r13, d1, g32, Int.reduceToNat]
      (refine hK _ _ ?_; clear hK; try clear K)
      refine Wc_cond (t := false) rfl (fun ht => by cases ht) (fun _ => ?_)
      refine Wc_skip ?_
      refine key2 _ _ _ (wd521 y lo) rfl l2 rd3 hW ?_ (Ch.refl _ _)
      rw [zb_wd521 hlo]; unfold hz521; rw [if_neg (by omega), show m = n by omega]
  refine Wc_seq_k fun K hK => ?_
  refine Wc_plain [] rfl ?_
  simp only [true_and, vc_nil, ↓vc_move, ↓vc_assign, ↓vc_pick, ↓vc_nilCheck, ↓vc_bin, ↓vc_un, ↓vc_conv, ↓vc_extract, ↓vc_fieldAddr, ↓vc_len, ↓vc_cap, ↓vc_indexAddr, ↓vc_slice0, ↓vc_sliceH, ↓vc_sliceL, ↓vc_sliceB, ↓vc_load2, ↓vc_load1, ↓vc_store2, ↓vc_store1, ↓vc_call2, ↓vc_callW, ↓vc_callQ, ↓vc_guard, ↓ev_tmp, ↓ev_const, ↓ev_func, ↓lk_cons, ↓putL_some, ↓putL_none, ↓List.headD_nil, ↓List.tail_nil, ↓List.headD_cons, ↓List.tail_cons, thn, enumL, ↓reduceIte, Nat.reduceLT, Nat.reduceLeDiff, Nat.reduceEqDiff, Nat.reduceAdd, Nat.reduceMul, Nat.reduceSub, Nat.zero_add, Nat.add_zero, Nat.mul_one, List.map_toArray, List.map_cons, List.map_nil, reduceCtorEq, Int.toNat_natCast, List.getElem?_toArray, List.getElem?_cons_zero, List.getElem?_cons_succ, Bool.not_true, Bool.not_false, bop_lss, bop_leq, bop_gtr, bop_geq, bop_eql, bop_neq, bop_add, bop_sub, bop_mul, bop_and, bop_or, bop_xor, bop_andNot, oc, List.cons_append, List.nil_append, isl30, foff24_1, one3, cel_row r1]
  (refine hK _ _ ?_; clear hK; try clear K)
  refine Wc_cond rfl (fun ht => ?_) (fun hf => ?_)
  · have hlt : 66 < n := by have := of_decide_eq_true ht; omega
    obtain ⟨bb, ob, rfl, hcb⟩ := hb3 (by omega)
    refine Wc_plain [] rfl ?_
    simp only [true_and, vc_nil, ↓vc_move, ↓vc_assign, ↓vc_pick, ↓vc_nilCheck, ↓vc_bin, ↓vc_un, ↓vc_conv, ↓vc_extract, ↓vc_fieldAddr, ↓vc_len, ↓vc_cap, ↓vc_indexAddr, ↓vc_slice0, ↓vc_sliceH, ↓vc_sliceL, ↓vc_sliceB, ↓vc_load2, ↓vc_load1, ↓vc_store2, ↓vc_store1, ↓vc_call2, ↓vc_callW, ↓vc_callQ, ↓vc_guard, ↓ev_tmp, ↓ev_const, ↓ev_func, ↓lk_cons, ↓putL_some, ↓putL_none, ↓List.headD_nil, ↓List.tail_nil, ↓List.headD_cons, ↓List.tail_cons, thn, enumL, ↓reduceIte, Nat.reduceLT, Nat.reduceLeDiff, Nat.reduceEqDiff, Nat.reduceAdd, Nat.reduceMul, Nat.reduceSub, Nat.zero_add, Nat.add_zero, Nat.mul_one, List.map_toArray, List.map_cons, List.map_nil, reduceCtorEq, Int.toNat_natCast, List.getElem?_toArray, List.getElem?_cons_zero, List.getElem?_cons_succ, Bool.not_true, Bool.not_false, bop_lss, bop_leq, bop_gtr, bop_geq, bop_eql, bop_neq, bop_add, bop_sub, bop_mul, bop_and, bop_or, bop_xor, bop_andNot, oc, List.cons_append, List.nil_append, foff24_1, one3, cel_row r1, esz30, Int.reduceToNat]
    refine ⟨⟨by decide, by omega⟩, ?_⟩
    exact key _ (some ⟨bb, ob, none⟩) 66 cb 0 rfl rfl ⟨_, cb, rfl, by omega, fun e => (by cases e), fun _ => ⟨bb, ob, rfl, fun j hj => k1.kp.cel_of (hcb j (by omega))⟩⟩ (by omega) rfl
  · have hle : n ≤ 66 := by have := of_decide_eq_false hf; omega
    refine Wc_skip ?_
    exact key _ ab n cb (66 - n) rfl rfl (hb0.kp k1.kp) (by omega) (by omega)

theorem hz_lt521 {n : Nat} {y : Nat → Nat} (hy : ∀ j, y j < 256) (t : Nat) : hz521 n y t < 256 := by
  unfold hz521
  split
  · exact ite_lt (y7_lt hy _) (by decide)
  · exact ite_lt (hy _) (by decide)

theorem hz_out521 {n : Nat} {y : Nat → Nat} {t : Nat} (ht : 66 ≤ t) : hz521 n y t = 0 := by
  unfold hz521
  split
  · exact zb_out ht
  · exact zb_out (by omega)

theorem hz_stop521 {n s : Nat} {y : Nat → Nat} (hs : 66 ≤ s) : BN.numB (hz521 n y) s = BN.numB (hz521 n y) 66 := numB_stop hs fun u hu => hz_out521 hu

theorem hz_bd521 {n : Nat} {y : Nat → Nat} (hy : ∀ j, y j < 256) : BN.numB (hz521 n y) 66 < 2 ^ 521 := by
  have h1 := BN.numB_lt (hz_lt521 (n := n) hy) 65
  have h2 : (2 : Nat) ^ 521 = 2 * 256 ^ 65 := by decide +kernel
  have h3 : hz521 n y 65 ≤ 1 := by
    unfold hz521
    split
    · have := hy 0
      rw [zb_in (by decide)]
      show y7 y 0 ≤ 1
      unfold y7
      rw [if_neg (by decide)]
      omega
    · rw [zb_out (by omega)]; decide
  have h4 : BN.numB (hz521 n y) 66 = BN.numB (hz521 n y) 65 + hz521 n y 65 * 256 ^ 65 := rfl
  rw [h2, h4]
  generalize BN.numB (hz521 n y) 65 = A at *
  generalize hz521 n y 65 = B at *
  have : B * 256 ^ 65 ≤ 1 * 256 ^ 65 := Nat.mul_le_mul_right _ h3
  omega

theorem HashNumber_inv521 (w0 : World) {h : Hp} {bf kf n : Nat} {vb : Value} {y : Nat → Nat} (hb : Rd .u8 h vb n (fun j => (y j : Int))) (hy : ∀ j, y j < 256) (hn : n ≤ 1000000) :
    Inv Try.prog w0 23 #[.agg #[.int .i64 521, .int .i64 66, .int .i64 17, .slice (some ⟨bf, 0, none⟩) kf kf], vb] h fun v h' =>
      ∃ r : Nat → Nat, Rd .i64 h' v 17 (fun j => (r j : Int)) ∧ (∀ j, r j < 4294967296) ∧ BW.val r 17 = BN.numB (hz521 n y) 66 % 6864797660130609714981900799081393217269435300143305409394463459185543183397655394245057746333217197532963996371363321113864768612440380340372808892707005449 ∧ Ch [] h h' := by
  refine Inv_of_Wc (args := [_, _]) Try.func23 rfl Try.ntmps23 (Nat.le_of_ble_eq_true rfl) hb23 ?_
  refine Wc_seq_k fun K hK => ?_
  refine Wc_plain [] rfl ?_
  simp only [true_and, vc_nil, ↓vc_move, ↓vc_assign, ↓vc_pick, ↓vc_nilCheck, ↓vc_bin, ↓vc_un, ↓vc_conv, ↓vc_extract, ↓vc_fieldAddr, ↓vc_len, ↓vc_cap, ↓vc_indexAddr, ↓vc_slice0, ↓vc_sliceH, ↓vc_sliceL, ↓vc_sliceB, ↓vc_load2, ↓vc_load1, ↓vc_store2, ↓vc_store1, ↓vc_call2, ↓vc_callW, ↓vc_callQ, ↓vc_guard, ↓ev_tmp, ↓ev_const, ↓ev_func, ↓lk_cons, ↓putL_some, ↓putL_none, ↓List.headD_nil, ↓List.tail_nil, ↓List.headD_cons, ↓List.tail_cons, thn, enumL, ↓reduceIte, Nat.reduceLT, Nat.reduceLeDiff, Nat.reduceEqDiff, Nat.reduceAdd, Nat.reduceMul, Nat.reduceSub, Nat.zero_add, Nat.add_zero, Nat.mul_one, List.map_toArray, List.map_cons, List.map_nil, reduceCtorEq, Int.toNat_natCast, List.getElem?_toArray, List.getElem?_cons_zero, List.getElem?_cons_succ, Bool.not_true, Bool.not_false, bop_lss, bop_leq, bop_gtr, bop_geq, bop_eql, bop_neq, bop_add, bop_sub, bop_mul, bop_and, bop_or, bop_xor, bop_andNot, oc, List.cons_append, List.nil_append, vc_box2]
  refine Ro_box rfl ?_
  simp only [true_and, vc_nil, ↓vc_move, ↓vc_assign, ↓vc_pick, ↓vc_nilCheck, ↓vc_bin, ↓vc_un, ↓vc_conv, ↓vc_extract, ↓vc_fieldAddr, ↓vc_len, ↓vc_cap, ↓vc_indexAddr, ↓vc_slice0, ↓vc_sliceH, ↓vc_sliceL, ↓vc_sliceB, ↓vc_load2, ↓vc_load1, ↓vc_store2, ↓vc_store1, ↓vc_call2, ↓vc_callW, ↓vc_callQ, ↓vc_guard, ↓ev_tmp, ↓ev_const, ↓ev_func, ↓lk_cons, ↓putL_some, ↓putL_none, ↓List.headD_nil, ↓List.tail_nil, ↓List.headD_cons, ↓List.tail_cons, thn, enumL, ↓reduceIte, Nat.reduceLT, Nat.reduceLeDiff, Nat.reduceEqDiff, Nat.reduceAdd, Nat.reduceMul, Nat.reduceSub, Nat.zero_add, Nat.add_zero, Nat.mul_one, List.map_toArray, List.map_cons, List.map_nil, reduceCtorEq, Int.toNat_natCast, List.getElem?_toArray, List.getElem?_cons_zero, List.getElem?_cons_succ, Bool.not_true, Bool.not_false, bop_lss, bop_leq, bop_gtr, bop_geq, bop_eql, bop_neq, bop_add, bop_sub, bop_mul, bop_and, bop_or, bop_xor, bop_andNot, oc, List.cons_append, List.nil_append]
  show K _ (h.push (.cells #[.int .i64 521, .int .i64 66, .int .i64 17, .slice (some ⟨bf, 0, none⟩) kf kf] 24 (0, 0)))
  have k1 := Ch.push [] h (.cells #[.int .i64 521, .int .i64 66, .int .i64 17, .slice (some ⟨bf, 0, none⟩) kf kf] 24 (0, 0))
  have r1 := rowOf_push h #[.int .i64 521, .int .i64 66, .int .i64 17, .slice (some ⟨bf, 0, none⟩) kf kf] 24
  generalize h.push (.cells #[.int .i64 521, .int .i64 66, .int .i64 17, .slice (some ⟨bf, 0, none⟩) kf kf] 24 (0, 0)) = h1 at k1 r1 ⊢
  (refine hK _ _ ?_; clear hK; try clear K)
  have q1 := row_lt r1
  have ld : ∀ hX, keeps [(h.size, none)] h1 hX → rowOf hX h.size = some (#[.int .i64 521, .int .i64 66, .int .i64 17, .slice (some ⟨bf, 0, none⟩) kf kf], 24) := fun hX k => by
    have := k (h.size, none) (by simp)
    unfold rowOf at r1 ⊢
    rw [show hX[h.size]? = h1[h.size]? from this]; exact r1
  refine Wc_seq_k fun K hK => ?_
  refine Wc_plan [] [(h.size, none)] [5, 5, 0, 4, 4, 0] (Plan.one 0 (Plan.one 1 (Plan.one 2 (Plan.one 3 (Plan.one 4 (Plan.one 5 Plan.nil)))))) rfl mixed rfl (by decide) (by kernel_rfl) ?_
  simp only [true_and, vc_nil, ↓vc_move, ↓vc_assign, ↓vc_pick, ↓vc_nilCheck, ↓vc_bin, ↓vc_un, ↓vc_conv, ↓vc_extract, ↓vc_fieldAddr, ↓vc_len, ↓vc_cap, ↓vc_indexAddr, ↓vc_slice0, ↓vc_sliceH, ↓vc_sliceL, ↓vc_sliceB, ↓vc_load2, ↓vc_load1, ↓vc_store2, ↓vc_store1, ↓vc_call2S, ↓vc_callWS, ↓vc_callQS, ↓vc_guard, ↓ev_tmp, ↓ev_const, ↓ev_func, ↓lk_cons, ↓putL_some, ↓putL_none, ↓List.headD_nil, ↓List.tail_nil, ↓List.headD_cons, ↓List.tail_cons, thn, enumL, ↓reduceIte, Nat.reduceLT, Nat.reduceLeDiff, Nat.reduceEqDiff, Nat.reduceAdd, Nat.reduceMul, Nat.reduceSub, Nat.zero_add, Nat.add_zero, Nat.mul_one, List.map_toArray, List.map_cons, List.map_nil, reduceCtorEq, Int.toNat_natCast, List.getElem?_toArray, List.getElem?_cons_zero, List.getElem?_cons_succ, Bool.not_true, Bool.not_false, bop_lss, bop_leq, bop_gtr, bop_geq, bop_eql, bop_neq, bop_add, bop_sub, bop_mul, bop_and, bop_or, bop_xor, bop_andNot, oc, List.cons_append, List.nil_append, ↓vc_load3, ↓vc_store4, ↓vc_call4S, ↓vc_buildSlice4, ↓vc_load5, ↓vcP_nil, ↓vcP_one, ↓vcP_two, List.getD_cons_zero, List.getD_cons_succ, List.getD_nil]
  refine ⟨_, fun w0 h' hk => Rs_loadrow rfl rfl (ld _ hk) rt24x521 rfl, _, fun w0 h' hk => Rs_loadrow rfl rfl (ld _ hk) rt24x521 rfl, ?_⟩
  refine (Leftmost_inv521 w0 (hb.kp k1.kp) hy hn).mono ?_
  rintro v2 h2 ⟨W, hW, hz, d2, k2⟩
  refine ⟨keeps1 (k2.keep1 q1 (by simp)), vcS_intro ?_⟩
  have hv : BW.val (wz W 66) 17 = BN.numB (hz521 n y) 66 := ((val_wz W 66 17).trans (congrArg (fun z => BN.numB z (4 * 17)) hz)).trans (hz_stop521 (by decide))
  have hbd := hz_bd521 (n := n) hy
  have h2n : 2 ^ 521 < 2 * 6864797660130609714981900799081393217269435300143305409394463459185543183397655394245057746333217197532963996371363321113864768612440380340372808892707005449 := by decide +kernel
  simp only [true_and, vc_nil, ↓vc_move, ↓vc_assign, ↓vc_pick, ↓vc_nilCheck, ↓vc_bin, ↓vc_un, ↓vc_conv, ↓vc_extract, ↓vc_fieldAddr, ↓vc_len, ↓vc_cap, ↓vc_indexAddr, ↓vc_slice0, ↓vc_sliceH, ↓vc_sliceL, ↓vc_sliceB, ↓vc_load2, ↓vc_load1, ↓vc_store2, ↓vc_store1, ↓vc_call2S, ↓vc_callWS, ↓vc_callQS, ↓vc_guard, ↓ev_tmp, ↓ev_const, ↓ev_func, ↓lk_cons, ↓putL_some, ↓putL_none, ↓List.headD_nil, ↓List.tail_nil, ↓List.headD_cons, ↓List.tail_cons, thn, enumL, ↓reduceIte, Nat.reduceLT, Nat.reduceLeDiff, Nat.reduceEqDiff, Nat.reduceAdd, Nat.reduceMul, Nat.reduceSub, Nat.zero_add, Nat.add_zero, Nat.mul_one, List.map_toArray, List.map_cons, List.map_nil, reduceCtorEq, Int.toNat_natCast, List.getElem?_toArray, List.getElem?_cons_zero, List.getElem?_cons_succ, Bool.not_true, Bool.not_false, bop_lss, bop_leq, bop_gtr, bop_geq, bop_eql, bop_neq, bop_add, bop_sub, bop_mul, bop_and, bop_or, bop_xor, bop_andNot, oc, List.cons_append, List.nil_append, ↓vc_load3, ↓vc_store4, ↓vc_call4S, ↓vc_buildSlice4, ↓vc_load5, ↓vcP_nil, ↓vcP_one, ↓vcP_two, List.getD_cons_zero, List.getD_cons_succ, List.getD_nil]
  refine (OrdRest_inv521 w0 d2 (wz_lt hW 66) (by rw [hv]; omega)).mono ?_
  rintro v3 h3 ⟨r, d3, hr, hval, k3⟩
  refine ⟨keeps1 ((k2.keep1 q1 (by simp)).symm.trans ((k2.trans k3).keep1 q1 (by simp))), vcS_intro ?_⟩
  simp only [true_and, vc_nil, ↓vc_move, ↓vc_assign, ↓vc_pick, ↓vc_nilCheck, ↓vc_bin, ↓vc_un, ↓vc_conv, ↓vc_extract, ↓vc_fieldAddr, ↓vc_len, ↓vc_cap, ↓vc_indexAddr, ↓vc_slice0, ↓vc_sliceH, ↓vc_sliceL, ↓vc_sliceB, ↓vc_load2, ↓vc_load1, ↓vc_store2, ↓vc_store1, ↓vc_call2S, ↓vc_callWS, ↓vc_callQS, ↓vc_guard, ↓ev_tmp, ↓ev_const, ↓ev_func, ↓lk_cons, ↓putL_some, ↓putL_none, ↓List.headD_nil, ↓List.tail_nil, ↓List.headD_cons, ↓List.tail_cons, thn, enumL, ↓reduceIte, Nat.reduceLT, Nat.reduceLeDiff, Nat.reduceEqDiff, Nat.reduceAdd, Nat.reduceMul, Nat.reduceSub, Nat.zero_add, Nat.add_zero, Nat.mul_one, List.map_toArray, List.map_cons, List.map_nil, reduceCtorEq, Int.toNat_natCast, List.getElem?_toArray, List.getElem?_cons_zero, List.getElem?_cons_succ, Bool.not_true, Bool.not_false, bop_lss, bop_leq, bop_gtr, bop_geq, bop_eql, bop_neq, bop_add, bop_sub, bop_mul, bop_and, bop_or, bop_xor, bop_andNot, oc, List.cons_append, List.nil_append, ↓vc_load3, ↓vc_store4, ↓vc_call4S, ↓vc_buildSlice4, ↓vc_load5, ↓vcP_nil, ↓vcP_one, ↓vcP_two, List.getD_cons_zero, List.getD_cons_succ, List.getD_nil]
  (refine hK _ _ ?_; clear hK; try clear K)
  refine Wc_ret ?_
  simp only [true_and, fin, resV, ↓ev_tmp, ↓lk_cons, ↓reduceIte, Nat.reduceLT, Nat.reduceEqDiff, List.cons_append, List.nil_append, res23]
  exact ⟨r, d3, hr, by rw [hval, hv], (k1.trans k2).trans k3⟩
end Go.Proofs.Ytfakfllmbfjofaa
