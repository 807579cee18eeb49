/- spec: Leftmost, HashNumber (384 bits): what they compute. -/
import Derived.Test.YtfakfllmbfjofaaX3x384
open Go Go.Fl
namespace Go.Proofs.Ytfakfllmbfjofaa
set_option linter.unusedSimpArgs false
set_option linter.unusedVariables false
set_option maxRecDepth 100000


/-- the bytes of the number of a hash, the lowest first -/
def hz384 (n : Nat) (y : Nat → Nat) : Nat → Nat := zb y (min n 48)

/-- bytes behind lo zeros -/
def wd384 (y : Nat → Nat) (lo j : Nat) : Nat := if lo ≤ j ∧ j < 48 then y (j - lo) else 0
theorem zb_wd384 {y : Nat → Nat} {lo m : Nat} (h : lo + m = 48) : zb (wd384 y lo) 48 = zb y m := funext fun t => by
  unfold zb wd384
  by_cases h1 : t < 48
  · rw [if_pos h1]
    by_cases h2 : t < m
    · rw [if_pos h2, if_pos (by omega)]; congr 1; omega
    · rw [if_neg h2, if_neg (by omega)]
  · rw [if_neg h1, if_neg (by omega)]

theorem Leftmost_inv384 (w0 : World) {h : Hp} {bf kf n : Nat} {vb : Value} {y : Nat → Nat} (hb : Rd .u8 h vb n (fun j => (y j : Int))) (hy : ∀ j, y j < 256) (hn : n ≤ 1000000) :
    Inv Try.prog w0 47 #[.agg #[.int .i64 384, .int .i64 48, .int .i64 12, .slice (some ⟨bf, 0, none⟩) kf kf], vb] h fun v h' =>
      ∃ W : Nat → Nat, (∀ j, W j < 256) ∧ zb W 48 = hz384 n y ∧ Rd .i64 h' v 12 (fun j => (wz W 48 j : Int)) ∧ Ch [] h h' := by
  have hb0 := hb
  obtain ⟨ab, cb, rfl, hb1, hb2, hb3⟩ := hb
  refine Inv_of_Wc (args := [_, _]) Try.func47 rfl Try.ntmps47 (Nat.le_of_ble_eq_true rfl) hb47 ?_
  refine Wc_seq_k fun K hK => ?_
  refine Wc_plain [] rfl ?_
  simp only [true_and, vc_nil, ↓vc_move, ↓vc_assign, ↓vc_pick, ↓vc_nilCheck, ↓vc_bin, ↓vc_un, ↓vc_conv, ↓vc_extract, ↓vc_fieldAddr, ↓vc_len, ↓vc_cap, ↓vc_indexAddr, ↓vc_slice0, ↓vc_sliceH, ↓vc_sliceL, ↓vc_sliceB, ↓vc_load2, ↓vc_load1, ↓vc_store2, ↓vc_store1, ↓vc_call2, ↓vc_callW, ↓vc_callQ, ↓vc_guard, ↓ev_tmp, ↓ev_const, ↓ev_func, ↓lk_cons, ↓putL_some, ↓putL_none, ↓List.headD_nil, ↓List.tail_nil, ↓List.headD_cons, ↓List.tail_cons, thn, enumL, ↓reduceIte, Nat.reduceLT, Nat.reduceLeDiff, Nat.reduceEqDiff, Nat.reduceAdd, Nat.reduceMul, Nat.reduceSub, Nat.zero_add, Nat.add_zero, Nat.mul_one, List.map_toArray, List.map_cons, List.map_nil, reduceCtorEq, Int.toNat_natCast, List.getElem?_toArray, List.getElem?_cons_zero, List.getElem?_cons_succ, Bool.not_true, Bool.not_false, bop_lss, bop_leq, bop_gtr, bop_geq, bop_eql, bop_neq, bop_add, bop_sub, bop_mul, bop_and, bop_or, bop_xor, bop_andNot, oc, List.cons_append, List.nil_append, vc_box2]
  refine Ro_box rfl ?_
  simp only [true_and, vc_nil, ↓vc_move, ↓vc_assign, ↓vc_pick, ↓vc_nilCheck, ↓vc_bin, ↓vc_un, ↓vc_conv, ↓vc_extract, ↓vc_fieldAddr, ↓vc_len, ↓vc_cap, ↓vc_indexAddr, ↓vc_slice0, ↓vc_sliceH, ↓vc_sliceL, ↓vc_sliceB, ↓vc_load2, ↓vc_load1, ↓vc_store2, ↓vc_store1, ↓vc_call2, ↓vc_callW, ↓vc_callQ, ↓vc_guard, ↓ev_tmp, ↓ev_const, ↓ev_func, ↓lk_cons, ↓putL_some, ↓putL_none, ↓List.headD_nil, ↓List.tail_nil, ↓List.headD_cons, ↓List.tail_cons, thn, enumL, ↓reduceIte, Nat.reduceLT, Nat.reduceLeDiff, Nat.reduceEqDiff, Nat.reduceAdd, Nat.reduceMul, Nat.reduceSub, Nat.zero_add, Nat.add_zero, Nat.mul_one, List.map_toArray, List.map_cons, List.map_nil, reduceCtorEq, Int.toNat_natCast, List.getElem?_toArray, List.getElem?_cons_zero, List.getElem?_cons_succ, Bool.not_true, Bool.not_false, bop_lss, bop_leq, bop_gtr, bop_geq, bop_eql, bop_neq, bop_add, bop_sub, bop_mul, bop_and, bop_or, bop_xor, bop_andNot, oc, List.cons_append, List.nil_append]
  show K _ (h.push (.cells #[.int .i64 384, .int .i64 48, .int .i64 12, .slice (some ⟨bf, 0, none⟩) kf kf] 24 (0, 0)))
  have k1 := Ch.push [] h (.cells #[.int .i64 384, .int .i64 48, .int .i64 12, .slice (some ⟨bf, 0, none⟩) kf kf] 24 (0, 0))
  have r1 := rowOf_push h #[.int .i64 384, .int .i64 48, .int .i64 12, .slice (some ⟨bf, 0, none⟩) kf kf] 24
  generalize h.push (.cells #[.int .i64 384, .int .i64 48, .int .i64 12, .slice (some ⟨bf, 0, none⟩) kf kf] 24 (0, 0)) = h1 at k1 r1 ⊢
  (refine hK _ _ ?_; clear hK; try clear K)
  refine Wc_seq_k fun Ko hKo => ?_
  have key : ∀ (L : FL) (am : Option Addr) (m cm lo : Nat), lk L 1 = .slice am m cm → lk L 2 = .pointer (some ⟨h.size, 0, none⟩) → Rd .u8 h1 (.slice am m cm) m (fun j => (y j : Int)) → m = min n 48 → lo + m = 48 → Ko L h1 := by
    intro L am m cm lo l1 l2 hm hmn hlo
    (refine hKo _ _ ?_; clear hKo; try clear Ko)
    refine Wc_seq_k fun K hK => ?_
    refine Wc_plain [] rfl ?_
    simp only [true_and, vc_nil, ↓vc_move, ↓vc_assign, ↓vc_pick, ↓vc_nilCheck, ↓vc_bin, ↓vc_un, ↓vc_conv, ↓vc_extract, ↓vc_fieldAddr, ↓vc_len, ↓vc_cap, ↓vc_indexAddr, ↓vc_slice0, ↓vc_sliceH, ↓vc_sliceL, ↓vc_sliceB, ↓vc_load2, ↓vc_load1, ↓vc_store2, ↓vc_store1, ↓vc_call2, ↓vc_callW, ↓vc_callQ, ↓vc_guard, ↓ev_tmp, ↓ev_const, ↓ev_func, ↓lk_cons, ↓putL_some, ↓putL_none, ↓List.headD_nil, ↓List.tail_nil, ↓List.headD_cons, ↓List.tail_cons, thn, enumL, ↓reduceIte, Nat.reduceLT, Nat.reduceLeDiff, Nat.reduceEqDiff, Nat.reduceAdd, Nat.reduceMul, Nat.reduceSub, Nat.zero_add, Nat.add_zero, Nat.mul_one, List.map_toArray, List.map_cons, List.map_nil, reduceCtorEq, Int.toNat_natCast, List.getElem?_toArray, List.getElem?_cons_zero, List.getElem?_cons_succ, Bool.not_true, Bool.not_false, bop_lss, bop_leq, bop_gtr, bop_geq, bop_eql, bop_neq, bop_add, bop_sub, bop_mul, bop_and, bop_or, bop_xor, bop_andNot, oc, List.cons_append, List.nil_append, vc_make, l2, foff24_1, one3, cel_row r1]
    refine Ro_make rfl mki30 rfl rfl (by decide) (by decide) (by decide) (by decide) ?_
    simp only [Int.reduceToNat]
    rw [show Array.replicate 48 (Value.int .u8 (Int.ofNat 0)) = RI .u8 (fun _ => 0) 48 from RI_replicate _ _ _]
    have k2 := Ch.push [] h1 (.cells (RI .u8 (fun _ => 0) 48) 5 (0, 0))
    have r2 := rowOf_push h1 (RI .u8 (fun _ => 0) 48) 5
    generalize h1.push (.cells (RI .u8 (fun _ => 0) 48) 5 (0, 0)) = h2 at k2 r2 ⊢
    (refine hK _ _ ?_; clear hK; try clear K)
    have q1 := row_lt r1
    have r12 := k2.row r1 (by simp)
    have wlo : IntKind.i64.wrap ((48 : Int) - (m : Int)) = (lo : Int) := by rw [wrap_i64_id (by omega) (by omega)]; omega
    refine Wc_seq_k fun K hK => ?_
    refine Wc_plain [] rfl ?_
    simp only [true_and, vc_nil, ↓vc_move, ↓vc_assign, ↓vc_pick, ↓vc_nilCheck, ↓vc_bin, ↓vc_un, ↓vc_conv, ↓vc_extract, ↓vc_fieldAddr, ↓vc_len, ↓vc_cap, ↓vc_indexAddr, ↓vc_slice0, ↓vc_sliceH, ↓vc_sliceL, ↓vc_sliceB, ↓vc_load2, ↓vc_load1, ↓vc_store2, ↓vc_store1, ↓vc_call2, ↓vc_callW, ↓vc_callQ, ↓vc_guard, ↓ev_tmp, ↓ev_const, ↓ev_func, ↓lk_cons, ↓putL_some, ↓putL_none, ↓List.headD_nil, ↓List.tail_nil, ↓List.headD_cons, ↓List.tail_cons, thn, enumL, ↓reduceIte, Nat.reduceLT, Nat.reduceLeDiff, Nat.reduceEqDiff, Nat.reduceAdd, Nat.reduceMul, Nat.reduceSub, Nat.zero_add, Nat.add_zero, Nat.mul_one, List.map_toArray, List.map_cons, List.map_nil, reduceCtorEq, Int.toNat_natCast, List.getElem?_toArray, List.getElem?_cons_zero, List.getElem?_cons_succ, Bool.not_true, Bool.not_false, bop_lss, bop_leq, bop_gtr, bop_geq, bop_eql, bop_neq, bop_add, bop_sub, bop_mul, bop_and, bop_or, bop_xor, bop_andNot, oc, List.cons_append, List.nil_append, l1, l2, foff24_1, one3, cel_row r12, isl30, wlo, esz30, vc_copy2]
    refine ⟨⟨by omega, by omega⟩, ?_⟩
    refine Ro_copy (s := m) (ys := fun j => (y j : Int)) rfl mki30 rfl r2 (hm.kp k2.kp) (by split <;> omega) ?_
    have ew : RI .u8 (fun j => if (if 48 = lo then 0 else lo) ≤ j ∧ j < (if 48 = lo then 0 else lo) + min m (48 - lo) then (y (j - (if 48 = lo then 0 else lo)) : Int) else 0) 48 = RI .u8 (fun j => (wd384 y lo j : Int)) 48 := RI_congr fun j hj => by
      unfold wd384
      by_cases h1 : 48 = lo
      · rw [if_pos h1, if_neg (by omega), if_neg (by omega)]; rfl
      · rw [if_neg h1]
        by_cases h2 : lo ≤ j
        · rw [if_pos (by omega), if_pos (by omega)]
        · rw [if_neg (by omega), if_neg (by omega)]; rfl
    rw [ew]
    have r3 := rowOf_hset_self (c := RI .u8 (fun j => (wd384 y lo j : Int)) 48) (T := 5) r2
    have k3 : Ch [] h (hset h2 h1.size (RI .u8 (fun j => (wd384 y lo j : Int)) 48) 5) := (((k1.trans k2).sub (C := [h1.size]) (by simp)).trans (Ch.hset _ _ _ (by simp))).new (fun i hi => .inr (by have := k1.1; simp at hi; omega))
    have r13 := (rowOf_hset_ne (RI .u8 (fun j => (wd384 y lo j : Int)) 48) 5 (show h1.size ≠ h.size by omega)).trans r12
    generalize hset h2 h1.size (RI .u8 (fun j => (wd384 y lo j : Int)) 48) 5 = h3 at r3 k3 r13 ⊢
    have hW : ∀ j, wd384 y lo j < 256 := fun j => ite_lt (hy _) (by decide)
    have rd3 : Rd .u8 h3 (.slice (some ⟨h1.size, 0, none⟩) 48 48) 48 (fun j => (wd384 y lo j : Int)) := ⟨_, _, rfl, Nat.le_refl _, fun e => (by cases e), fun _ => ⟨h1.size, 0, rfl, fun j hj => by rw [cel_row r3, Nat.zero_add, RI_get hj]⟩⟩
    have q13 := row_lt r13
    (refine hK _ _ ?_; clear hK; try clear K)
    have g32 : (32 : Int) < ((47 : Nat) : Int) := by decide
    have rem8 : Int.tmod 384 8 = 0 := by decide
    refine Wc_seq_k fun Kq hKq => ?_
    have key2 : ∀ (L : FL) (h4 : Hp) (va : Value) (W : Nat → Nat), lk L 5 = va → lk L 2 = .pointer (some ⟨h.size, 0, none⟩) → Rd .u8 h4 va 48 (fun j => (W j : Int)) → (∀ j, W j < 256) → zb W 48 = hz384 n y → Ch [] h3 h4 → Kq L h4 := by
      intro L h4 va W l5 l2' hrd hWl hzz k4
      (refine hKq _ _ ?_; clear hKq; try clear Kq)
      have r14 := k4.row r13 (by simp)
      refine Wc_seq_k fun K hK => ?_
      refine Wc_plainC [] [6, 2, 2, 2] rfl ?_
      simp only [true_and, vc_nil, ↓vc_move, ↓vc_assign, ↓vc_pick, ↓vc_nilCheck, ↓vc_bin, ↓vc_un, ↓vc_conv, ↓vc_extract, ↓vc_fieldAddr, ↓vc_len, ↓vc_cap, ↓vc_indexAddr, ↓vc_slice0, ↓vc_sliceH, ↓vc_sliceL, ↓vc_sliceB, ↓vc_load2, ↓vc_load1, ↓vc_store2, ↓vc_store1, ↓vc_call2S, ↓vc_callWS, ↓vc_callQS, ↓vc_guard, ↓ev_tmp, ↓ev_const, ↓ev_func, ↓lk_cons, ↓putL_some, ↓putL_none, ↓List.headD_nil, ↓List.tail_nil, ↓List.headD_cons, ↓List.tail_cons, thn, enumL, ↓reduceIte, Nat.reduceLT, Nat.reduceLeDiff, Nat.reduceEqDiff, Nat.reduceAdd, Nat.reduceMul, Nat.reduceSub, Nat.zero_add, Nat.add_zero, Nat.mul_one, List.map_toArray, List.map_cons, List.map_nil, reduceCtorEq, Int.toNat_natCast, List.getElem?_toArray, List.getElem?_cons_zero, List.getElem?_cons_succ, Bool.not_true, Bool.not_false, bop_lss, bop_leq, bop_gtr, bop_geq, bop_eql, bop_neq, bop_add, bop_sub, bop_mul, bop_and, bop_or, bop_xor, bop_andNot, oc, List.cons_append, List.nil_append, vc_load6]
      refine Ro_of_Rs (Rs_loadrow rfl l2' r14 rt24x384 rfl) (vcS_intro ?_)
      simp only [true_and, vc_nil, ↓vc_move, ↓vc_assign, ↓vc_pick, ↓vc_nilCheck, ↓vc_bin, ↓vc_un, ↓vc_conv, ↓vc_extract, ↓vc_fieldAddr, ↓vc_len, ↓vc_cap, ↓vc_indexAddr, ↓vc_slice0, ↓vc_sliceH, ↓vc_sliceL, ↓vc_sliceB, ↓vc_load2, ↓vc_load1, ↓vc_store2, ↓vc_store1, ↓vc_call2S, ↓vc_callWS, ↓vc_callQS, ↓vc_guard, ↓ev_tmp, ↓ev_const, ↓ev_func, ↓lk_cons, ↓putL_some, ↓putL_none, ↓List.headD_nil, ↓List.tail_nil, ↓List.headD_cons, ↓List.tail_cons, thn, enumL, ↓reduceIte, Nat.reduceLT, Nat.reduceLeDiff, Nat.reduceEqDiff, Nat.reduceAdd, Nat.reduceMul, Nat.reduceSub, Nat.zero_add, Nat.add_zero, Nat.mul_one, List.map_toArray, List.map_cons, List.map_nil, reduceCtorEq, Int.toNat_natCast, List.getElem?_toArray, List.getElem?_cons_zero, List.getElem?_cons_succ, Bool.not_true, Bool.not_false, bop_lss, bop_leq, bop_gtr, bop_geq, bop_eql, bop_neq, bop_add, bop_sub, bop_mul, bop_and, bop_or, bop_xor, bop_andNot, oc, List.cons_append, List.nil_append, l5]
      refine (Number_inv w0 hrd hWl (by decide) (by decide) (by decide)).mono ?_
      rintro v h5 ⟨bo, rfl, r5, k5, g5⟩
      refine vcS_intro ?_
      simp only [true_and, vc_nil, ↓vc_move, ↓vc_assign, ↓vc_pick, ↓vc_nilCheck, ↓vc_bin, ↓vc_un, ↓vc_conv, ↓vc_extract, ↓vc_fieldAddr, ↓vc_len, ↓vc_cap, ↓vc_indexAddr, ↓vc_slice0, ↓vc_sliceH, ↓vc_sliceL, ↓vc_sliceB, ↓vc_load2, ↓vc_load1, ↓vc_store2, ↓vc_store1, ↓vc_call2S, ↓vc_callWS, ↓vc_callQS, ↓vc_guard, ↓ev_tmp, ↓ev_const, ↓ev_func, ↓lk_cons, ↓putL_some, ↓putL_none, ↓List.headD_nil, ↓List.tail_nil, ↓List.headD_cons, ↓List.tail_cons, thn, enumL, ↓reduceIte, Nat.reduceLT, Nat.reduceLeDiff, Nat.reduceEqDiff, Nat.reduceAdd, Nat.reduceMul, Nat.reduceSub, Nat.zero_add, Nat.add_zero, Nat.mul_one, List.map_toArray, List.map_cons, List.map_nil, reduceCtorEq, Int.toNat_natCast, List.getElem?_toArray, List.getElem?_cons_zero, List.getElem?_cons_succ, Bool.not_true, Bool.not_false, bop_lss, bop_leq, bop_gtr, bop_geq, bop_eql, bop_neq, bop_add, bop_sub, bop_mul, bop_and, bop_or, bop_xor, bop_andNot, oc, List.cons_append, List.nil_append]
      (refine hK _ _ ?_; clear hK; try clear K)
      refine Wc_ret ?_
      simp only [true_and, fin, resV, ↓ev_tmp, ↓lk_cons, ↓reduceIte, Nat.reduceLT, Nat.reduceEqDiff, List.cons_append, List.nil_append, res47]
      exact ⟨W, hWl, hzz, ⟨_, _, rfl, Nat.le_refl _, fun e => (by cases e), fun _ => ⟨bo, 0, rfl, fun j hj => by rw [cel_row r5, Nat.zero_add, RI_get hj]⟩⟩, (k3.trans k4).trans k5⟩
    refine Wc_seq_k fun K hK => ?_
    refine Wc_plain [(5, .int .i64 32)] rfl ?_
    by_cases hmS : m = 48
    · have d1 : ((m : Int) == 48) = true := by simp; omega
      simp only [true_and, vc_nil, ↓vc_move, ↓vc_assign, ↓vc_pick, ↓vc_nilCheck, ↓vc_bin, ↓vc_un, ↓vc_conv, ↓vc_extract, ↓vc_fieldAddr, ↓vc_len, ↓vc_cap, ↓vc_indexAddr, ↓vc_slice0, ↓vc_sliceH, ↓vc_sliceL, ↓vc_sliceB, ↓vc_load2, ↓vc_load1, ↓vc_store2, ↓vc_store1, ↓vc_call2, ↓vc_callW, ↓vc_callQ, ↓vc_guard, ↓ev_tmp, ↓ev_const, ↓ev_func, ↓lk_cons, ↓putL_some, ↓putL_none, ↓List.headD_nil, ↓List.tail_nil, ↓List.headD_cons, ↓List.tail_cons, thn, enumL, ↓reduceIte, Nat.reduceLT, Nat.reduceLeDiff, Nat.reduceEqDiff, Nat.reduceAdd, Nat.reduceMul, Nat.reduceSub, Nat.zero_add, Nat.add_zero, Nat.mul_one, List.map_toArray, List.map_cons, List.map_nil, reduceCtorEq, Int.toNat_natCast, List.getElem?_toArray, List.getElem?_cons_zero, List.getElem?_cons_succ, Bool.not_true, Bool.not_false, bop_lss, bop_leq, bop_gtr, bop_geq, bop_eql, bop_neq, bop_add, bop_sub, bop_mul, bop_and, bop_or, bop_xor, bop_andNot, oc, List.cons_append, List.nil_append, l1, l2, isl30, foff24_1, foff24_0, one3, cel_row r13, d1, g32, Int.reduceToNat, bop_rem _ (show (8 : Int) ≠ 0 by decide), rem8]
      (refine hK _ _ ?_; clear hK; try clear K)
      refine Wc_cond (t := false) rfl (fun ht => by cases ht) (fun _ => ?_)
      refine Wc_skip ?_
      exact key2 _ _ _ (wd384 y lo) rfl l2 rd3 hW (by rw [zb_wd384 hlo, hmn]; rfl) (Ch.refl _ _)
    · have d1 : ((m : Int) == 48) = false := by simp; omega
      simp only [true_and, vc_nil, ↓vc_move, ↓vc_assign, ↓vc_pick, ↓vc_nilCheck, ↓vc_bin, ↓vc_un, ↓vc_conv, ↓vc_extract, ↓vc_fieldAddr, ↓vc_len, ↓vc_cap, ↓vc_indexAddr, ↓vc_slice0, ↓vc_sliceH, ↓vc_sliceL, ↓vc_sliceB, ↓vc_load2, ↓vc_load1, ↓vc_store2, ↓vc_store1, ↓vc_call2, ↓vc_callW, ↓vc_callQ, ↓vc_guard, ↓ev_tmp, ↓ev_const, ↓ev_func, ↓lk_cons, ↓putL_some, ↓putL_none, ↓List.headD_nil, ↓List.tail_nil, ↓List.headD_cons, ↓List.tail_cons, thn, enumL, ↓reduceIte, Nat.reduceLT, Nat.reduceLeDiff, Nat.reduceEqDiff, Nat.reduceAdd, Nat.reduceMul, Nat.reduceSub, Nat.zero_add, Nat.add_zero, Nat.mul_one, List.map_toArray, List.map_cons, List.map_nil, reduceCtorEq, Int.toNat_natCast, List.getElem?_toArray, List.getElem?_cons_zero, List.getElem?_cons_succ, Bool.not_true, Bool.not_false, bop_lss, bop_leq, bop_gtr, bop_geq, bop_eql, bop_neq, bop_add, bop_sub, bop_mul, bop_and, bop_or, bop_xor, bop_andNot, oc, List.cons_append, List.nil_append, l1, l2, isl30, foff24_1, foff24_0, one3, cel_row r13, d1, g32, Int.reduceToNat]
      (refine hK _ _ ?_; clear hK; try clear K)
      refine Wc_cond (t := false) rfl (fun ht => by cases ht) (fun _ => ?_)
      refine Wc_skip ?_
      exact key2 _ _ _ (wd384 y lo) rfl l2 rd3 hW (by rw [zb_wd384 hlo, hmn]; rfl) (Ch.refl _ _)
  refine Wc_seq_k fun K hK => ?_
  refine Wc_plain [] rfl ?_
  simp only [true_and, vc_nil, ↓vc_move, ↓vc_assign, ↓vc_pick, ↓vc_nilCheck, ↓vc_bin, ↓vc_un, ↓vc_conv, ↓vc_extract, ↓vc_fieldAddr, ↓vc_len, ↓vc_cap, ↓vc_indexAddr, ↓vc_slice0, ↓vc_sliceH, ↓vc_sliceL, ↓vc_sliceB, ↓vc_load2, ↓vc_load1, ↓vc_store2, ↓vc_store1, ↓vc_call2, ↓vc_callW, ↓vc_callQ, ↓vc_guard, ↓ev_tmp, ↓ev_const, ↓ev_func, ↓lk_cons, ↓putL_some, ↓putL_none, ↓List.headD_nil, ↓List.tail_nil, ↓List.headD_cons, ↓List.tail_cons, thn, enumL, ↓reduceIte, Nat.reduceLT, Nat.reduceLeDiff, Nat.reduceEqDiff, Nat.reduceAdd, Nat.reduceMul, Nat.reduceSub, Nat.zero_add, Nat.add_zero, Nat.mul_one, List.map_toArray, List.map_cons, List.map_nil, reduceCtorEq, Int.toNat_natCast, List.getElem?_toArray, List.getElem?_cons_zero, List.getElem?_cons_succ, Bool.not_true, Bool.not_false, bop_lss, bop_leq, bop_gtr, bop_geq, bop_eql, bop_neq, bop_add, bop_sub, bop_mul, bop_and, bop_or, bop_xor, bop_andNot, oc, List.cons_append, List.nil_append, isl30, foff24_1, one3, cel_row r1]
  (refine hK _ _ ?_; clear hK; try clear K)
  refine Wc_cond rfl (fun ht => ?_) (fun hf => ?_)
  · have hlt : 48 < n := by have := of_decide_eq_true ht; omega
    obtain ⟨bb, ob, rfl, hcb⟩ := hb3 (by omega)
    refine Wc_plain [] rfl ?_
    simp only [true_and, vc_nil, ↓vc_move, ↓vc_assign, ↓vc_pick, ↓vc_nilCheck, ↓vc_bin, ↓vc_un, ↓vc_conv, ↓vc_extract, ↓vc_fieldAddr, ↓vc_len, ↓vc_cap, ↓vc_indexAddr, ↓vc_slice0, ↓vc_sliceH, ↓vc_sliceL, ↓vc_sliceB, ↓vc_load2, ↓vc_load1, ↓vc_store2, ↓vc_store1, ↓vc_call2, ↓vc_callW, ↓vc_callQ, ↓vc_guard, ↓ev_tmp, ↓ev_const, ↓ev_func, ↓lk_cons, ↓putL_some, ↓putL_none, ↓List.headD_nil, ↓List.tail_nil, ↓List.headD_cons, ↓List.tail_cons, thn, enumL, ↓reduceIte, Nat.reduceLT, Nat.reduceLeDiff, Nat.reduceEqDiff, Nat.reduceAdd, Nat.reduceMul, Nat.reduceSub, Nat.zero_add, Nat.add_zero, Nat.mul_one, List.map_toArray, List.map_cons, List.map_nil, reduceCtorEq, Int.toNat_natCast, List.getElem?_toArray, List.getElem?_cons_zero, List.getElem?_cons_succ, Bool.not_true, Bool.not_false, bop_lss, bop_leq, bop_gtr, bop_geq, bop_eql, bop_neq, bop_add, bop_sub, bop_mul, bop_and, bop_or, bop_xor, bop_andNot, oc, List.cons_append, List.nil_append, foff24_1, one3, cel_row r1, esz30, Int.reduceToNat]
    refine ⟨⟨by decide, by omega⟩, ?_⟩
    exact key _ (some ⟨bb, ob, none⟩) 48 cb 0 rfl rfl ⟨_, cb, rfl, by omega, fun e => (by cases e), fun _ => ⟨bb, ob, rfl, fun j hj => k1.kp.cel_of (hcb j (by omega))⟩⟩ (by omega) rfl
  · have hle : n ≤ 48 := by have := of_decide_eq_false hf; omega
    refine Wc_skip ?_
    exact key _ ab n cb (48 - n) rfl rfl (hb0.kp k1.kp) (by omega) (by omega)

theorem hz_lt384 {n : Nat} {y : Nat → Nat} (hy : ∀ j, y j < 256) (t : Nat) : hz384 n y t < 256 := by
  unfold hz384
  exact ite_lt (hy _) (by decide)

theorem hz_out384 {n : Nat} {y : Nat → Nat} {t : Nat} (ht : 48 ≤ t) : hz384 n y t = 0 := by
  unfold hz384
  exact zb_out (by omega)

theorem hz_stop384 {n s : Nat} {y : Nat → Nat} (hs : 48 ≤ s) : BN.numB (hz384 n y) s = BN.numB (hz384 n y) 48 := numB_stop hs fun u hu => hz_out384 hu

theorem hz_bd384 {n : Nat} {y : Nat → Nat} (hy : ∀ j, y j < 256) : BN.numB (hz384 n y) 48 < 2 ^ 384 := by
  have h1 := BN.numB_lt (hz_lt384 (n := n) hy) 48
  have h2 : (256 : Nat) ^ 48 = 2 ^ 384 := by decide +kernel
  exact Nat.lt_of_lt_of_eq h1 h2

theorem HashNumber_inv384 (w0 : World) {h : Hp} {bf kf n : Nat} {vb : Value} {y : Nat → Nat} (hb : Rd .u8 h vb n (fun j => (y j : Int))) (hy : ∀ j, y j < 256) (hn : n ≤ 1000000) :
    Inv Try.prog w0 23 #[.agg #[.int .i64 384, .int .i64 48, .int .i64 12, .slice (some ⟨bf, 0, none⟩) kf kf], vb] h fun v h' =>
      ∃ r : Nat → Nat, Rd .i64 h' v 12 (fun j => (r j : Int)) ∧ (∀ j, r j < 4294967296) ∧ BW.val r 12 = BN.numB (hz384 n y) 48 % 39402006196394479212279040100143613805079739270465446667946905279627659399113263569398956308152294913554433653942643 ∧ Ch [] h h' := by
  refine Inv_of_Wc (args := [_, _]) Try.func23 rfl Try.ntmps23 (Nat.le_of_ble_eq_true rfl) hb23 ?_
  refine Wc_seq_k fun K hK => ?_
  refine Wc_plain [] rfl ?_
  simp only [true_and, vc_nil, ↓vc_move, ↓vc_assign, ↓vc_pick, ↓vc_nilCheck, ↓vc_bin, ↓vc_un, ↓vc_conv, ↓vc_extract, ↓vc_fieldAddr, ↓vc_len, ↓vc_cap, ↓vc_indexAddr, ↓vc_slice0, ↓vc_sliceH, ↓vc_sliceL, ↓vc_sliceB, ↓vc_load2, ↓vc_load1, ↓vc_store2, ↓vc_store1, ↓vc_call2, ↓vc_callW, ↓vc_callQ, ↓vc_guard, ↓ev_tmp, ↓ev_const, ↓ev_func, ↓lk_cons, ↓putL_some, ↓putL_none, ↓List.headD_nil, ↓List.tail_nil, ↓List.headD_cons, ↓List.tail_cons, thn, enumL, ↓reduceIte, Nat.reduceLT, Nat.reduceLeDiff, Nat.reduceEqDiff, Nat.reduceAdd, Nat.reduceMul, Nat.reduceSub, Nat.zero_add, Nat.add_zero, Nat.mul_one, List.map_toArray, List.map_cons, List.map_nil, reduceCtorEq, Int.toNat_natCast, List.getElem?_toArray, List.getElem?_cons_zero, List.getElem?_cons_succ, Bool.not_true, Bool.not_false, bop_lss, bop_leq, bop_gtr, bop_geq, bop_eql, bop_neq, bop_add, bop_sub, bop_mul, bop_and, bop_or, bop_xor, bop_andNot, oc, List.cons_append, List.nil_append, vc_box2]
  refine Ro_box rfl ?_
  simp only [true_and, vc_nil, ↓vc_move, ↓vc_assign, ↓vc_pick, ↓vc_nilCheck, ↓vc_bin, ↓vc_un, ↓vc_conv, ↓vc_extract, ↓vc_fieldAddr, ↓vc_len, ↓vc_cap, ↓vc_indexAddr, ↓vc_slice0, ↓vc_sliceH, ↓vc_sliceL, ↓vc_sliceB, ↓vc_load2, ↓vc_load1, ↓vc_store2, ↓vc_store1, ↓vc_call2, ↓vc_callW, ↓vc_callQ, ↓vc_guard, ↓ev_tmp, ↓ev_const, ↓ev_func, ↓lk_cons, ↓putL_some, ↓putL_none, ↓List.headD_nil, ↓List.tail_nil, ↓List.headD_cons, ↓List.tail_cons, thn, enumL, ↓reduceIte, Nat.reduceLT, Nat.reduceLeDiff, Nat.reduceEqDiff, Nat.reduceAdd, Nat.reduceMul, Nat.reduceSub, Nat.zero_add, Nat.add_zero, Nat.mul_one, List.map_toArray, List.map_cons, List.map_nil, reduceCtorEq, Int.toNat_natCast, List.getElem?_toArray, List.getElem?_cons_zero, List.getElem?_cons_succ, Bool.not_true, Bool.not_false, bop_lss, bop_leq, bop_gtr, bop_geq, bop_eql, bop_neq, bop_add, bop_sub, bop_mul, bop_and, bop_or, bop_xor, bop_andNot, oc, List.cons_append, List.nil_append]
  show K _ (h.push (.cells #[.int .i64 384, .int .i64 48, .int .i64 12, .slice (some ⟨bf, 0, none⟩) kf kf] 24 (0, 0)))
  have k1 := Ch.push [] h (.cells #[.int .i64 384, .int .i64 48, .int .i64 12, .slice (some ⟨bf, 0, none⟩) kf kf] 24 (0, 0))
  have r1 := rowOf_push h #[.int .i64 384, .int .i64 48, .int .i64 12, .slice (some ⟨bf, 0, none⟩) kf kf] 24
  generalize h.push (.cells #[.int .i64 384, .int .i64 48, .int .i64 12, .slice (some ⟨bf, 0, none⟩) kf kf] 24 (0, 0)) = h1 at k1 r1 ⊢
  (refine hK _ _ ?_; clear hK; try clear K)
  have q1 := row_lt r1
  have ld : ∀ hX, keeps [(h.size, none)] h1 hX → rowOf hX h.size = some (#[.int .i64 384, .int .i64 48, .int .i64 12, .slice (some ⟨bf, 0, none⟩) kf kf], 24) := fun hX k => by
    have := k (h.size, none) (by simp)
    unfold rowOf at r1 ⊢
    rw [show hX[h.size]? = h1[h.size]? from this]; exact r1
  refine Wc_seq_k fun K hK => ?_
  refine Wc_plan [] [(h.size, none)] [5, 5, 0, 4, 4, 0] (Plan.one 0 (Plan.one 1 (Plan.one 2 (Plan.one 3 (Plan.one 4 (Plan.one 5 Plan.nil)))))) rfl mixed rfl (by decide) (by kernel_rfl) ?_
  simp only [true_and, vc_nil, ↓vc_move, ↓vc_assign, ↓vc_pick, ↓vc_nilCheck, ↓vc_bin, ↓vc_un, ↓vc_conv, ↓vc_extract, ↓vc_fieldAddr, ↓vc_len, ↓vc_cap, ↓vc_indexAddr, ↓vc_slice0, ↓vc_sliceH, ↓vc_sliceL, ↓vc_sliceB, ↓vc_load2, ↓vc_load1, ↓vc_store2, ↓vc_store1, ↓vc_call2S, ↓vc_callWS, ↓vc_callQS, ↓vc_guard, ↓ev_tmp, ↓ev_const, ↓ev_func, ↓lk_cons, ↓putL_some, ↓putL_none, ↓List.headD_nil, ↓List.tail_nil, ↓List.headD_cons, ↓List.tail_cons, thn, enumL, ↓reduceIte, Nat.reduceLT, Nat.reduceLeDiff, Nat.reduceEqDiff, Nat.reduceAdd, Nat.reduceMul, Nat.reduceSub, Nat.zero_add, Nat.add_zero, Nat.mul_one, List.map_toArray, List.map_cons, List.map_nil, reduceCtorEq, Int.toNat_natCast, List.getElem?_toArray, List.getElem?_cons_zero, List.getElem?_cons_succ, Bool.not_true, Bool.not_false, bop_lss, bop_leq, bop_gtr, bop_geq, bop_eql, bop_neq, bop_add, bop_sub, bop_mul, bop_and, bop_or, bop_xor, bop_andNot, oc, List.cons_append, List.nil_append, ↓vc_load3, ↓vc_store4, ↓vc_call4S, ↓vc_buildSlice4, ↓vc_load5, ↓vcP_nil, ↓vcP_one, ↓vcP_two, List.getD_cons_zero, List.getD_cons_succ, List.getD_nil]
  refine ⟨_, fun w0 h' hk => Rs_loadrow rfl rfl (ld _ hk) rt24x384 rfl, _, fun w0 h' hk => Rs_loadrow rfl rfl (ld _ hk) rt24x384 rfl, ?_⟩
  refine (Leftmost_inv384 w0 (hb.kp k1.kp) hy hn).mono ?_
  rintro v2 h2 ⟨W, hW, hz, d2, k2⟩
  refine ⟨keeps1 (k2.keep1 q1 (by simp)), vcS_intro ?_⟩
  have hv : BW.val (wz W 48) 12 = BN.numB (hz384 n y) 48 := ((val_wz W 48 12).trans (congrArg (fun z => BN.numB z (4 * 12)) hz)).trans (hz_stop384 (by decide))
  have hbd := hz_bd384 (n := n) hy
  have h2n : 2 ^ 384 < 2 * 39402006196394479212279040100143613805079739270465446667946905279627659399113263569398956308152294913554433653942643 := by decide +kernel
  simp only [true_and, vc_nil, ↓vc_move, ↓vc_assign, ↓vc_pick, ↓vc_nilCheck, ↓vc_bin, ↓vc_un, ↓vc_conv, ↓vc_extract, ↓vc_fieldAddr, ↓vc_len, ↓vc_cap, ↓vc_indexAddr, ↓vc_slice0, ↓vc_sliceH, ↓vc_sliceL, ↓vc_sliceB, ↓vc_load2, ↓vc_load1, ↓vc_store2, ↓vc_store1, ↓vc_call2S, ↓vc_callWS, ↓vc_callQS, ↓vc_guard, ↓ev_tmp, ↓ev_const, ↓ev_func, ↓lk_cons, ↓putL_some, ↓putL_none, ↓List.headD_nil, ↓List.tail_nil, ↓List.headD_cons, ↓List.tail_cons, thn, enumL, ↓reduceIte, Nat.reduceLT, Nat.reduceLeDiff, Nat.reduceEqDiff, Nat.reduceAdd, Nat.reduceMul, Nat.reduceSub, Nat.zero_add, Nat.add_zero, Nat.mul_one, List.map_toArray, List.map_cons, List.map_nil, reduceCtorEq, Int.toNat_natCast, List.getElem?_toArray, List.getElem?_cons_zero, List.getElem?_cons_succ, Bool.not_true, Bool.not_false, bop_lss, bop_leq, bop_gtr, bop_geq, bop_eql, bop_neq, bop_add, bop_sub, bop_mul, bop_and, bop_or, bop_xor, bop_andNot, oc, List.cons_append, List.nil_append, ↓vc_load3, ↓vc_store4, ↓vc_call4S, ↓vc_buildSlice4, ↓vc_load5, ↓vcP_nil, ↓vcP_one, ↓vcP_two, List.getD_cons_zero, List.getD_cons_succ, List.getD_nil]
  refine (OrdRest_inv384 w0 d2 (wz_lt hW 48) (by rw [hv]; omega)).mono ?_
  rintro v3 h3 ⟨r, d3, hr, hval, k3⟩
  refine ⟨keeps1 ((k2.keep1 q1 (by simp)).symm.trans ((k2.trans k3).keep1 q1 (by simp))), vcS_intro ?_⟩
  simp only [true_and, vc_nil, ↓vc_move, ↓vc_assign, ↓vc_pick, ↓vc_nilCheck, ↓vc_bin, ↓vc_un, ↓vc_conv, ↓vc_extract, ↓vc_fieldAddr, ↓vc_len, ↓vc_cap, ↓vc_indexAddr, ↓vc_slice0, ↓vc_sliceH, ↓vc_sliceL, ↓vc_sliceB, ↓vc_load2, ↓vc_load1, ↓vc_store2, ↓vc_store1, ↓vc_call2S, ↓vc_callWS, ↓vc_callQS, ↓vc_guard, ↓ev_tmp, ↓ev_const, ↓ev_func, ↓lk_cons, ↓putL_some, ↓putL_none, ↓List.headD_nil, ↓List.tail_nil, ↓List.headD_cons, ↓List.tail_cons, thn, enumL, ↓reduceIte, Nat.reduceLT, Nat.reduceLeDiff, Nat.reduceEqDiff, Nat.reduceAdd, Nat.reduceMul, Nat.reduceSub, Nat.zero_add, Nat.add_zero, Nat.mul_one, List.map_toArray, List.map_cons, List.map_nil, reduceCtorEq, Int.toNat_natCast, List.getElem?_toArray, List.getElem?_cons_zero, List.getElem?_cons_succ, Bool.not_true, Bool.not_false, bop_lss, bop_leq, bop_gtr, bop_geq, bop_eql, bop_neq, bop_add, bop_sub, bop_mul, bop_and, bop_or, bop_xor, bop_andNot, oc, List.cons_append, List.nil_append, ↓vc_load3, ↓vc_store4, ↓vc_call4S, ↓vc_buildSlice4, ↓vc_load5, ↓vcP_nil, ↓vcP_one, ↓vcP_two, List.getD_cons_zero, List.getD_cons_succ, List.getD_nil]
  (refine hK _ _ ?_; clear hK; try clear K)
  refine Wc_ret ?_
  simp only [true_and, fin, resV, ↓ev_tmp, ↓lk_cons, ↓reduceIte, Nat.reduceLT, Nat.reduceEqDiff, List.cons_append, List.nil_append, res23]
  exact ⟨r, d3, hr, by rw [hval, hv], (k1.trans k2).trans k3⟩
end Go.Proofs.Ytfakfllmbfjofaa
