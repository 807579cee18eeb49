/- spec: Bytes. -/
import Derived.Test.YtfakfllmbfjofaaH1
import Derived.Test.YtfakfllmbfjofaaS1
open Go Go.Fl
namespace Go.Proofs.Ytfakfllmbfjofaa
set_option linter.unusedSimpArgs false
set_option linter.unusedVariables false
set_option maxRecDepth 100000

/-- byte at_ of words -/
def bI (x : Nat → Int) (at_ : Nat) : Int := IntKind.u8.wrap ((x (at_ / 4)).fdiv (2 ^ (8 * (at_ % 4))))

theorem SBytes_inv (w0 : World) {h : Hp} {c0 c2 c3 va : Value} {S V : Nat} {x : Nat → Int} (ha : Rd .i64 h va V x) (hS0 : 0 < S) (hS : S ≤ 4 * V) (hV : V ≤ 32) :
    Inv Try.prog w0 16 #[.agg #[c0, .int .i64 S, c2, c3], va] h fun v h' => Rd .u8 h' v S (fun i => bI x (S - 1 - i)) ∧ Ch [] h h' := by
  obtain ⟨aa, ca, rfl, ha1, ha2, ha3⟩ := ha
  obtain ⟨ba, oa, rfl, hca⟩ := ha3 (by omega)
  refine Inv_of_Wc (args := [_, _]) Try.func16 rfl Try.ntmps16 (Nat.le_of_ble_eq_true rfl) hb16 ?_
  refine Wc_seq_k fun K hK => ?_
  refine Wc_plain [] rfl ?_
  simp only [true_and, vc_nil, ↓vc_move, ↓vc_assign, ↓vc_pick, ↓vc_nilCheck, ↓vc_bin, ↓vc_un, ↓vc_conv, ↓vc_extract, ↓vc_fieldAddr, ↓vc_len, ↓vc_cap, ↓vc_indexAddr, ↓vc_slice0, ↓vc_sliceH, ↓vc_sliceL, ↓vc_sliceB, ↓vc_load2, ↓vc_load1, ↓vc_store2, ↓vc_store1, ↓vc_call2, ↓vc_callW, ↓vc_callQ, ↓vc_guard, ↓ev_tmp, ↓ev_const, ↓ev_func, ↓lk_cons, ↓putL_some, ↓putL_none, ↓List.headD_nil, ↓List.tail_nil, ↓List.headD_cons, ↓List.tail_cons, thn, enumL, ↓reduceIte, Nat.reduceLT, Nat.reduceLeDiff, Nat.reduceEqDiff, Nat.reduceAdd, Nat.reduceMul, Nat.reduceSub, Nat.zero_add, Nat.add_zero, Nat.mul_one, List.map_toArray, List.map_cons, List.map_nil, reduceCtorEq, Int.toNat_natCast, List.getElem?_toArray, List.getElem?_cons_zero, List.getElem?_cons_succ, Bool.not_true, Bool.not_false, bop_lss, bop_leq, bop_gtr, bop_geq, bop_eql, bop_neq, bop_add, bop_sub, bop_mul, bop_and, bop_or, bop_xor, bop_andNot, oc, List.cons_append, List.nil_append, vc_box2]
  refine Ro_box rfl ?_
  simp only [true_and, vc_nil, ↓vc_move, ↓vc_assign, ↓vc_pick, ↓vc_nilCheck, ↓vc_bin, ↓vc_un, ↓vc_conv, ↓vc_extract, ↓vc_fieldAddr, ↓vc_len, ↓vc_cap, ↓vc_indexAddr, ↓vc_slice0, ↓vc_sliceH, ↓vc_sliceL, ↓vc_sliceB, ↓vc_load2, ↓vc_load1, ↓vc_store2, ↓vc_store1, ↓vc_call2, ↓vc_callW, ↓vc_callQ, ↓vc_guard, ↓ev_tmp, ↓ev_const, ↓ev_func, ↓lk_cons, ↓putL_some, ↓putL_none, ↓List.headD_nil, ↓List.tail_nil, ↓List.headD_cons, ↓List.tail_cons, thn, enumL, ↓reduceIte, Nat.reduceLT, Nat.reduceLeDiff, Nat.reduceEqDiff, Nat.reduceAdd, Nat.reduceMul, Nat.reduceSub, Nat.zero_add, Nat.add_zero, Nat.mul_one, List.map_toArray, List.map_cons, List.map_nil, reduceCtorEq, Int.toNat_natCast, List.getElem?_toArray, List.getElem?_cons_zero, List.getElem?_cons_succ, Bool.not_true, Bool.not_false, bop_lss, bop_leq, bop_gtr, bop_geq, bop_eql, bop_neq, bop_add, bop_sub, bop_mul, bop_and, bop_or, bop_xor, bop_andNot, oc, List.cons_append, List.nil_append]
  show K _ (h.push (.cells #[c0, .int .i64 S, c2, c3] 24 (0, 0)))
  have k1 := Ch.push [] h (.cells #[c0, .int .i64 S, c2, c3] 24 (0, 0))
  have r1 := rowOf_push h #[c0, .int .i64 S, c2, c3] 24
  generalize h.push (.cells #[c0, .int .i64 S, c2, c3] 24 (0, 0)) = h1 at k1 r1 ⊢
  (refine hK _ _ ?_; clear hK; try clear K)
  refine Wc_seq_k fun K hK => ?_
  refine Wc_plain [] rfl ?_
  simp only [true_and, vc_nil, ↓vc_move, ↓vc_assign, ↓vc_pick, ↓vc_nilCheck, ↓vc_bin, ↓vc_un, ↓vc_conv, ↓vc_extract, ↓vc_fieldAddr, ↓vc_len, ↓vc_cap, ↓vc_indexAddr, ↓vc_slice0, ↓vc_sliceH, ↓vc_sliceL, ↓vc_sliceB, ↓vc_load2, ↓vc_load1, ↓vc_store2, ↓vc_store1, ↓vc_call2, ↓vc_callW, ↓vc_callQ, ↓vc_guard, ↓ev_tmp, ↓ev_const, ↓ev_func, ↓lk_cons, ↓putL_some, ↓putL_none, ↓List.headD_nil, ↓List.tail_nil, ↓List.headD_cons, ↓List.tail_cons, thn, enumL, ↓reduceIte, Nat.reduceLT, Nat.reduceLeDiff, Nat.reduceEqDiff, Nat.reduceAdd, Nat.reduceMul, Nat.reduceSub, Nat.zero_add, Nat.add_zero, Nat.mul_one, List.map_toArray, List.map_cons, List.map_nil, reduceCtorEq, Int.toNat_natCast, List.getElem?_toArray, List.getElem?_cons_zero, List.getElem?_cons_succ, Bool.not_true, Bool.not_false, bop_lss, bop_leq, bop_gtr, bop_geq, bop_eql, bop_neq, bop_add, bop_sub, bop_mul, bop_and, bop_or, bop_xor, bop_andNot, oc, List.cons_append, List.nil_append, vc_make, foff24_1, one3, cel_row r1]
  refine Ro_make rfl mki30 rfl rfl (by omega) (by omega) (by omega) (by omega) ?_
  simp only [Int.toNat_natCast]
  rw [show Array.replicate S (Value.int .u8 (Int.ofNat 0)) = RI .u8 (fun i => if i < 0 then bI x (S - 1 - i) else 0) S from (RI_replicate _ _ _).trans (RI_congr fun j _ => (if_neg (by omega)).symm)]
  have k2 := Ch.push [] h1 (.cells (RI .u8 (fun i => if i < 0 then bI x (S - 1 - i) else 0) S) 5 (0, 0))
  have r2 := rowOf_push h1 (RI .u8 (fun i => if i < 0 then bI x (S - 1 - i) else 0) S) 5
  generalize h1.push (.cells (RI .u8 (fun i => if i < 0 then bI x (S - 1 - i) else 0) S) 5 (0, 0)) = h2 at k2 r2 ⊢
  have q1 := row_lt r1
  have r12 := k2.row r1 (by simp)
  have k02 := k1.trans k2
  have q0 : h.size ≤ h1.size := k1.1
  have hqs : h.size ≠ h1.size := by omega
  have hall : ∀ y, rowOf (hset h2 h1.size (RI .u8 y S) 5) h1.size = some (RI .u8 y S, 5) := fun y => rowOf_hset_self r2
  have hr1 : ∀ y, rowOf (hset h2 h1.size (RI .u8 y S) 5) h.size = some (#[c0, .int .i64 S, c2, c3], 24) := fun y => (rowOf_hset_ne _ _ (Ne.symm hqs)).trans r12
  have hkk : ∀ y, Ch [] h (hset h2 h1.size (RI .u8 y S) 5) := fun y => ((k02.sub (C := [h1.size]) (by simp)).trans (Ch.hset _ _ _ (by simp))).new (fun i hi => .inr (by simp at hi; omega))
  have hcc : ∀ y j, j < V → cel (hset h2 h1.size (RI .u8 y S) 5) ⟨ba, oa + j, none⟩ = some (.int .i64 (x j)) := fun y j hj => (hkk y).kp.cel_of (hca j hj)
  (refine hK _ _ ?_; clear hK; try clear K)
  refine Wc_seq_k fun Ko hKo => ?_
  refine Wc_seq_k fun K hK => ?_
  refine Wc_plain [] rfl ?_
  simp only [true_and, vc_nil, ↓vc_move, ↓vc_assign, ↓vc_pick, ↓vc_nilCheck, ↓vc_bin, ↓vc_un, ↓vc_conv, ↓vc_extract, ↓vc_fieldAddr, ↓vc_len, ↓vc_cap, ↓vc_indexAddr, ↓vc_slice0, ↓vc_sliceH, ↓vc_sliceL, ↓vc_sliceB, ↓vc_load2, ↓vc_load1, ↓vc_store2, ↓vc_store1, ↓vc_call2, ↓vc_callW, ↓vc_callQ, ↓vc_guard, ↓ev_tmp, ↓ev_const, ↓ev_func, ↓lk_cons, ↓putL_some, ↓putL_none, ↓List.headD_nil, ↓List.tail_nil, ↓List.headD_cons, ↓List.tail_cons, thn, enumL, ↓reduceIte, Nat.reduceLT, Nat.reduceLeDiff, Nat.reduceEqDiff, Nat.reduceAdd, Nat.reduceMul, Nat.reduceSub, Nat.zero_add, Nat.add_zero, Nat.mul_one, List.map_toArray, List.map_cons, List.map_nil, reduceCtorEq, Int.toNat_natCast, List.getElem?_toArray, List.getElem?_cons_zero, List.getElem?_cons_succ, Bool.not_true, Bool.not_false, bop_lss, bop_leq, bop_gtr, bop_geq, bop_eql, bop_neq, bop_add, bop_sub, bop_mul, bop_and, bop_or, bop_xor, bop_andNot, oc, List.cons_append, List.nil_append, isl30]
  (refine hK _ _ ?_; clear hK; try clear K)
  refine Wc_block ?_
  refine Wc_rounds (α := Nat) (fun s => [(13, .int .i64 s), (12, .int .i64 S), (5, .slice (some ⟨h1.size, 0, none⟩) S S), (1, .slice (some ⟨ba, oa, none⟩) V ca), (2, .pointer (some ⟨h.size, 0, none⟩))])
    (fun s => hset h2 h1.size (RI .u8 (fun i => if i < s then bI x (S - 1 - i) else 0) S) 5) (fun s => s ≤ S) (fun s => S - s) 0 ⟨rfl, rfl, rfl, rfl, rfl, trivial⟩ (hset_self r2).symm (Nat.zero_le _) ?_
  intro s D hs
  refine Wc_seq_k fun K hK => ?_
  refine Wc_plain [] rfl ?_
  simp only [true_and, vc_nil, ↓vc_move, ↓vc_assign, ↓vc_pick, ↓vc_nilCheck, ↓vc_bin, ↓vc_un, ↓vc_conv, ↓vc_extract, ↓vc_fieldAddr, ↓vc_len, ↓vc_cap, ↓vc_indexAddr, ↓vc_slice0, ↓vc_sliceH, ↓vc_sliceL, ↓vc_sliceB, ↓vc_load2, ↓vc_load1, ↓vc_store2, ↓vc_store1, ↓vc_call2, ↓vc_callW, ↓vc_callQ, ↓vc_guard, ↓ev_tmp, ↓ev_const, ↓ev_func, ↓lk_cons, ↓putL_some, ↓putL_none, ↓List.headD_nil, ↓List.tail_nil, ↓List.headD_cons, ↓List.tail_cons, thn, enumL, ↓reduceIte, Nat.reduceLT, Nat.reduceLeDiff, Nat.reduceEqDiff, Nat.reduceAdd, Nat.reduceMul, Nat.reduceSub, Nat.zero_add, Nat.add_zero, Nat.mul_one, List.map_toArray, List.map_cons, List.map_nil, reduceCtorEq, Int.toNat_natCast, List.getElem?_toArray, List.getElem?_cons_zero, List.getElem?_cons_succ, Bool.not_true, Bool.not_false, bop_lss, bop_leq, bop_gtr, bop_geq, bop_eql, bop_neq, bop_add, bop_sub, bop_mul, bop_and, bop_or, bop_xor, bop_andNot, oc, List.cons_append, List.nil_append]
  (refine hK _ _ ?_; clear hK; try clear K)
  refine Wc_seq_k fun K hK => ?_
  refine Wc_cond rfl (fun ht => ?_) (fun hf => ?_)
  · have hlt : s < S := by have := of_decide_eq_true ht; omega
    refine Wc_skip ?_
    (refine hK _ _ ?_; clear hK; try clear K)
    refine Wc_seq_k fun Kp hKp => ?_
    refine Wc_block ?_
    refine Wc_seq_k fun K hK => ?_
    refine Wc_plain [] rfl ?_
    simp only [true_and, vc_nil, ↓vc_move, ↓vc_assign, ↓vc_pick, ↓vc_nilCheck, ↓vc_bin, ↓vc_un, ↓vc_conv, ↓vc_extract, ↓vc_fieldAddr, ↓vc_len, ↓vc_cap, ↓vc_indexAddr, ↓vc_slice0, ↓vc_sliceH, ↓vc_sliceL, ↓vc_sliceB, ↓vc_load2, ↓vc_load1, ↓vc_store2, ↓vc_store1, ↓vc_call2, ↓vc_callW, ↓vc_callQ, ↓vc_guard, ↓ev_tmp, ↓ev_const, ↓ev_func, ↓lk_cons, ↓putL_some, ↓putL_none, ↓List.headD_nil, ↓List.tail_nil, ↓List.headD_cons, ↓List.tail_cons, thn, enumL, ↓reduceIte, Nat.reduceLT, Nat.reduceLeDiff, Nat.reduceEqDiff, Nat.reduceAdd, Nat.reduceMul, Nat.reduceSub, Nat.zero_add, Nat.add_zero, Nat.mul_one, List.map_toArray, List.map_cons, List.map_nil, reduceCtorEq, Int.toNat_natCast, List.getElem?_toArray, List.getElem?_cons_zero, List.getElem?_cons_succ, Bool.not_true, Bool.not_false, bop_lss, bop_leq, bop_gtr, bop_geq, bop_eql, bop_neq, bop_add, bop_sub, bop_mul, bop_and, bop_or, bop_xor, bop_andNot, oc, List.cons_append, List.nil_append]
    (refine hK _ _ ?_; clear hK; try clear K)
    obtain ⟨at_, hat⟩ : ∃ a, S - 1 - s = a := ⟨_, rfl⟩
    have wl : IntKind.i64.wrap ((S : Int) - 1) = (S : Int) - 1 := wrap_i64_id (by omega) (by omega)
    have wa : IntKind.i64.wrap ((S : Int) - 1 - s) = (at_ : Int) := by rw [wrap_i64_id (by omega) (by omega)]; omega
    have wq : IntKind.i64.wrap ((at_ : Int).tdiv 4) = ((at_ / 4 : Nat) : Int) := by rw [show (4 : Int) = ((4 : Nat) : Int) from rfl, tdiv_nat, wrap_i64_id (by omega) (by omega)]
    have wr : (at_ : Int).tmod 4 = ((at_ % 4 : Nat) : Int) := tmod_nat at_ 4
    have wm : IntKind.i64.wrap (8 * ((at_ % 4 : Nat) : Int)) = ((8 * (at_ % 4) : Nat) : Int) := by rw [wrap_i64_id (by omega) (by omega)]; omega
    have wsh : ∀ a : Int, sh .shr (.int .i64 a) (.int .i64 ((8 * (at_ % 4) : Nat) : Int)) = some (.int .i64 (a.fdiv (2 ^ (8 * (at_ % 4))))) := fun a => by
      have e : min (8 * (at_ % 4)) IntKind.i64.bits = 8 * (at_ % 4) := Nat.min_eq_left (show 8 * (at_ % 4) ≤ 64 by omega)
      rw [sh_shr (by omega), Int.toNat_natCast, e]
    have w1 : IntKind.i64.wrap ((s : Int) + 1) = (s : Int) + 1 := wrap_i64_id (by omega) (by omega)
    refine Wc_seq_k fun K hK => ?_
    refine Wc_plain [] rfl ?_
    simp only [true_and, vc_nil, ↓vc_move, ↓vc_assign, ↓vc_pick, ↓vc_nilCheck, ↓vc_bin, ↓vc_un, ↓vc_conv, ↓vc_extract, ↓vc_fieldAddr, ↓vc_len, ↓vc_cap, ↓vc_indexAddr, ↓vc_slice0, ↓vc_sliceH, ↓vc_sliceL, ↓vc_sliceB, ↓vc_load2, ↓vc_load1, ↓vc_store2, ↓vc_store1, ↓vc_call2, ↓vc_callW, ↓vc_callQ, ↓vc_guard, ↓ev_tmp, ↓ev_const, ↓ev_func, ↓lk_cons, ↓putL_some, ↓putL_none, ↓List.headD_nil, ↓List.tail_nil, ↓List.headD_cons, ↓List.tail_cons, thn, enumL, ↓reduceIte, Nat.reduceLT, Nat.reduceLeDiff, Nat.reduceEqDiff, Nat.reduceAdd, Nat.reduceMul, Nat.reduceSub, Nat.zero_add, Nat.add_zero, Nat.mul_one, List.map_toArray, List.map_cons, List.map_nil, reduceCtorEq, Int.toNat_natCast, List.getElem?_toArray, List.getElem?_cons_zero, List.getElem?_cons_succ, Bool.not_true, Bool.not_false, bop_lss, bop_leq, bop_gtr, bop_geq, bop_eql, bop_neq, bop_add, bop_sub, bop_mul, bop_and, bop_or, bop_xor, bop_andNot, oc, List.cons_append, List.nil_append, foff24_1, one3, cel_row (hr1 _), wl, wa]
    (refine hK _ _ ?_; clear hK; try clear K)
    refine Wc_plain [] rfl ?_
    simp only [true_and, vc_nil, ↓vc_move, ↓vc_assign, ↓vc_pick, ↓vc_nilCheck, ↓vc_bin, ↓vc_un, ↓vc_conv, ↓vc_extract, ↓vc_fieldAddr, ↓vc_len, ↓vc_cap, ↓vc_indexAddr, ↓vc_slice0, ↓vc_sliceH, ↓vc_sliceL, ↓vc_sliceB, ↓vc_load2, ↓vc_load1, ↓vc_store2, ↓vc_store1, ↓vc_call2, ↓vc_callW, ↓vc_callQ, ↓vc_guard, ↓ev_tmp, ↓ev_const, ↓ev_func, ↓lk_cons, ↓putL_some, ↓putL_none, ↓List.headD_nil, ↓List.tail_nil, ↓List.headD_cons, ↓List.tail_cons, thn, enumL, ↓reduceIte, Nat.reduceLT, Nat.reduceLeDiff, Nat.reduceEqDiff, Nat.reduceAdd, Nat.reduceMul, Nat.reduceSub, Nat.zero_add, Nat.add_zero, Nat.mul_one, List.map_toArray, List.map_cons, List.map_nil, reduceCtorEq, Int.toNat_natCast, List.getElem?_toArray, List.getElem?_cons_zero, List.getElem?_cons_succ, Bool.not_true, Bool.not_false, bop_lss, bop_leq, bop_gtr, bop_geq, bop_eql, bop_neq, bop_add, bop_sub, bop_mul, bop_and, bop_or, bop_xor, bop_andNot, oc, List.cons_append, List.nil_append, bop_quo _ (show (4 : Int) ≠ 0 by decide), wq, bop_rem _ (show (4 : Int) ≠ 0 by decide), wr, wm, wsh, esz27, one2, hcc _ _ (show at_ / 4 < V by omega), ikd2_5, esz30, sz5, hall, RI_size, inB]
    refine ⟨⟨by omega, by omega⟩, ⟨by omega, by omega⟩, by omega, ?_⟩
    have ew : RI .u8 (fun j => if j = s then IntKind.u8.wrap ((x (at_ / 4)).fdiv (2 ^ (8 * (at_ % 4)))) else if j < s then bI x (S - 1 - j) else 0) S = RI .u8 (fun i => if i < s + 1 then bI x (S - 1 - i) else 0) S := RI_congr fun j _ => by
      by_cases h1 : j = s
      · rw [if_pos h1, if_pos (by omega), h1, hat]; rfl
      · rw [if_neg h1]
        by_cases h2 : j < s
        · rw [if_pos h2, if_pos (by omega)]
        · rw [if_neg h2, if_neg (by omega)]
    rw [RI_set, ew, hset_hset]
    (refine hKp _ _ ?_; clear hKp; try clear Kp)
    refine Wc_plain [] rfl ?_
    simp only [true_and, vc_nil, ↓vc_move, ↓vc_assign, ↓vc_pick, ↓vc_nilCheck, ↓vc_bin, ↓vc_un, ↓vc_conv, ↓vc_extract, ↓vc_fieldAddr, ↓vc_len, ↓vc_cap, ↓vc_indexAddr, ↓vc_slice0, ↓vc_sliceH, ↓vc_sliceL, ↓vc_sliceB, ↓vc_load2, ↓vc_load1, ↓vc_store2, ↓vc_store1, ↓vc_call2, ↓vc_callW, ↓vc_callQ, ↓vc_guard, ↓ev_tmp, ↓ev_const, ↓ev_func, ↓lk_cons, ↓putL_some, ↓putL_none, ↓List.headD_nil, ↓List.tail_nil, ↓List.headD_cons, ↓List.tail_cons, thn, enumL, ↓reduceIte, Nat.reduceLT, Nat.reduceLeDiff, Nat.reduceEqDiff, Nat.reduceAdd, Nat.reduceMul, Nat.reduceSub, Nat.zero_add, Nat.add_zero, Nat.mul_one, List.map_toArray, List.map_cons, List.map_nil, reduceCtorEq, Int.toNat_natCast, List.getElem?_toArray, List.getElem?_cons_zero, List.getElem?_cons_succ, Bool.not_true, Bool.not_false, bop_lss, bop_leq, bop_gtr, bop_geq, bop_eql, bop_neq, bop_add, bop_sub, bop_mul, bop_and, bop_or, bop_xor, bop_andNot, oc, List.cons_append, List.nil_append, w1]
    exact ⟨s + 1, by omega, by omega, by simp only [chk, ↓lk_cons, ↓reduceIte, Nat.reduceEqDiff, List.cons_append, List.nil_append, cast_succ, and_self], rfl⟩
  · have hsS : s = S := by have := of_decide_eq_false hf; omega
    subst hsS
    refine Wc_exit ?_
    simp only [thn, inB, ↓reduceIte]
    (refine hKo _ _ ?_; clear hKo; try clear Ko)
    refine Wc_seq_k fun K hK => ?_
    refine Wc_plain [] rfl ?_
    simp only [true_and, vc_nil, ↓vc_move, ↓vc_assign, ↓vc_pick, ↓vc_nilCheck, ↓vc_bin, ↓vc_un, ↓vc_conv, ↓vc_extract, ↓vc_fieldAddr, ↓vc_len, ↓vc_cap, ↓vc_indexAddr, ↓vc_slice0, ↓vc_sliceH, ↓vc_sliceL, ↓vc_sliceB, ↓vc_load2, ↓vc_load1, ↓vc_store2, ↓vc_store1, ↓vc_call2, ↓vc_callW, ↓vc_callQ, ↓vc_guard, ↓ev_tmp, ↓ev_const, ↓ev_func, ↓lk_cons, ↓putL_some, ↓putL_none, ↓List.headD_nil, ↓List.tail_nil, ↓List.headD_cons, ↓List.tail_cons, thn, enumL, ↓reduceIte, Nat.reduceLT, Nat.reduceLeDiff, Nat.reduceEqDiff, Nat.reduceAdd, Nat.reduceMul, Nat.reduceSub, Nat.zero_add, Nat.add_zero, Nat.mul_one, List.map_toArray, List.map_cons, List.map_nil, reduceCtorEq, Int.toNat_natCast, List.getElem?_toArray, List.getElem?_cons_zero, List.getElem?_cons_succ, Bool.not_true, Bool.not_false, bop_lss, bop_leq, bop_gtr, bop_geq, bop_eql, bop_neq, bop_add, bop_sub, bop_mul, bop_and, bop_or, bop_xor, bop_andNot, oc, List.cons_append, List.nil_append]
    (refine hK _ _ ?_; clear hK; try clear K)
    refine Wc_ret ?_
    simp only [true_and, fin, resV, ↓ev_tmp, ↓lk_cons, ↓reduceIte, Nat.reduceLT, Nat.reduceEqDiff, List.cons_append, List.nil_append, res16]
    refine ⟨⟨_, s, rfl, Nat.le_refl _, fun e => (by cases e), fun _ => ⟨h1.size, 0, rfl, fun j hj => ?_⟩⟩, hkk _⟩
    rw [cel_row (hall _), Nat.zero_add, RI_get hj, if_pos hj]
end Go.Proofs.Ytfakfllmbfjofaa
