/- bigmod: Nat.Bytes. -/
import Derived.Test.YtfakfllmbfjofaaW20
open Go Go.Fl
namespace Go.Proofs.Ytfakfllmbfjofaa
set_option linter.unusedSimpArgs false
set_option linter.unusedVariables false
set_option maxRecDepth 100000

/-- byte t of a number, the lowest first -/
def byteN (x : Nat → Nat) (t : Nat) : Nat := x (t / 8) / 256 ^ (t % 8) % 256
/-- the last d of S bytes -/
def lastB (x : Nat → Nat) (S d : Nat) : Nat → Int := fun p => if S - d ≤ p then (byteN x (S - 1 - p) : Int) else 0

theorem byteN_lt (x : Nat → Nat) (t : Nat) : byteN x t < 256 := Nat.mod_lt _ (by decide)

theorem top_lt {x : Nat → Nat} {k t : Nat} (h : BN.val x (k + 1) < 256 ^ (8 * k + t)) : x k < 256 ^ t := by
  rw [BN.val, show (18446744073709551616 : Nat) ^ k = 256 ^ (8 * k) by rw [Nat.pow_mul], Nat.pow_add] at h
  have h2 : x k * 256 ^ (8 * k) < 256 ^ t * 256 ^ (8 * k) := by rw [Nat.mul_comm (256 ^ t)]; omega
  exact Nat.lt_of_mul_lt_mul_right h2

theorem shr8 (x : Nat) : sh .shr (.int .u64 (x : Int)) (.int .u64 8) = some (.int .u64 ((x / 256 : Nat) : Int)) := by
  rw [sh_shr (by decide)]
  have e : (x : Int).fdiv (2 ^ (min (8 : Int).toNat IntKind.u64.bits)) = ((x / 256 : Nat) : Int) := by
    show (x : Int).fdiv 256 = _
    rw [Int.fdiv_eq_ediv_of_nonneg _ (by decide)]; rfl
  rw [e]

theorem Bytes_inv (w0 : World) {h : Hp} {b l n bm bn ln S : Nat} {x N : Nat → Nat} {c1 c2 c3 : Value} (e : NA h b l n x) (em : MA h bm bn ln n N c1 c2 c3) (hS : (bitsL N n + 7) / 8 = S) (h1 : 8 * n ≤ S + 7) (h2 : S ≤ 8 * n)
    (hx : BN.val x n < 256 ^ S) :
    Inv Try.prog w0 57 #[.pointer (some ⟨b, 0, none⟩), .pointer (some ⟨bm, 0, none⟩)] h fun v h' =>
      v = .slice (some ⟨h.size, 0, none⟩) S S ∧ rowOf h' h.size = some (RI .u8 (fun p => (byteN x (S - 1 - p) : Int)) S, 5) ∧ Ch [] h h' := by
  have q1 := e.lt1
  have q2 := e.lt2
  have hn := e.hn
  refine Inv_of_Wc (args := [_, _]) Try.func57 rfl Try.ntmps57 (Nat.le_of_ble_eq_true rfl) hb57 ?_
  refine Wc_seq_k fun K hK => ?_
  refine Wc_plain [] rfl ?_
  simp only [true_and, vc_nil, ↓vc_move, ↓vc_assign, ↓vc_pick, ↓vc_nilCheck, ↓vc_bin, ↓vc_un, ↓vc_conv, ↓vc_extract, ↓vc_fieldAddr, ↓vc_len, ↓vc_cap, ↓vc_indexAddr, ↓vc_slice0, ↓vc_sliceH, ↓vc_sliceL, ↓vc_sliceB, ↓vc_load2, ↓vc_load1, ↓vc_store2, ↓vc_store1, ↓vc_call2, ↓vc_callW, ↓vc_callQ, ↓vc_guard, ↓ev_tmp, ↓ev_const, ↓ev_func, ↓lk_cons, ↓putL_some, ↓putL_none, ↓List.headD_nil, ↓List.tail_nil, ↓List.headD_cons, ↓List.tail_cons, thn, enumL, ↓reduceIte, Nat.reduceLT, Nat.reduceLeDiff, Nat.reduceEqDiff, Nat.reduceAdd, Nat.reduceMul, Nat.reduceSub, Nat.zero_add, Nat.add_zero, Nat.mul_one, List.map_toArray, List.map_cons, List.map_nil, reduceCtorEq, Int.toNat_natCast, List.getElem?_toArray, List.getElem?_cons_zero, List.getElem?_cons_succ, Bool.not_true, Bool.not_false, bop_lss, bop_leq, bop_gtr, bop_geq, bop_eql, bop_neq, bop_add, bop_sub, bop_mul, bop_and, bop_or, bop_xor, bop_andNot, oc, List.cons_append, List.nil_append]
  (refine hK _ _ ?_; clear hK; try clear K)
  refine Wc_seq_k fun K hK => ?_
  refine Wc_plain [] rfl ?_
  simp only [true_and, vc_nil, ↓vc_move, ↓vc_assign, ↓vc_pick, ↓vc_nilCheck, ↓vc_bin, ↓vc_un, ↓vc_conv, ↓vc_extract, ↓vc_fieldAddr, ↓vc_len, ↓vc_cap, ↓vc_indexAddr, ↓vc_slice0, ↓vc_sliceH, ↓vc_sliceL, ↓vc_sliceB, ↓vc_load2, ↓vc_load1, ↓vc_store2, ↓vc_store1, ↓vc_call2S, ↓vc_callWS, ↓vc_callQS, ↓vc_guard, ↓ev_tmp, ↓ev_const, ↓ev_func, ↓lk_cons, ↓putL_some, ↓putL_none, ↓List.headD_nil, ↓List.tail_nil, ↓List.headD_cons, ↓List.tail_cons, thn, enumL, ↓reduceIte, Nat.reduceLT, Nat.reduceLeDiff, Nat.reduceEqDiff, Nat.reduceAdd, Nat.reduceMul, Nat.reduceSub, Nat.zero_add, Nat.add_zero, Nat.mul_one, List.map_toArray, List.map_cons, List.map_nil, reduceCtorEq, Int.toNat_natCast, List.getElem?_toArray, List.getElem?_cons_zero, List.getElem?_cons_succ, Bool.not_true, Bool.not_false, bop_lss, bop_leq, bop_gtr, bop_geq, bop_eql, bop_neq, bop_add, bop_sub, bop_mul, bop_and, bop_or, bop_xor, bop_andNot, oc, List.cons_append, List.nil_append]
  refine (Size_inv w0 em).mono ?_
  rintro v hh ⟨rfl, rfl⟩
  rw [hS]
  refine vcS_intro ?_
  simp only [true_and, vc_nil, ↓vc_move, ↓vc_assign, ↓vc_pick, ↓vc_nilCheck, ↓vc_bin, ↓vc_un, ↓vc_conv, ↓vc_extract, ↓vc_fieldAddr, ↓vc_len, ↓vc_cap, ↓vc_indexAddr, ↓vc_slice0, ↓vc_sliceH, ↓vc_sliceL, ↓vc_sliceB, ↓vc_load2, ↓vc_load1, ↓vc_store2, ↓vc_store1, ↓vc_call2S, ↓vc_callWS, ↓vc_callQS, ↓vc_guard, ↓ev_tmp, ↓ev_const, ↓ev_func, ↓lk_cons, ↓putL_some, ↓putL_none, ↓List.headD_nil, ↓List.tail_nil, ↓List.headD_cons, ↓List.tail_cons, thn, enumL, ↓reduceIte, Nat.reduceLT, Nat.reduceLeDiff, Nat.reduceEqDiff, Nat.reduceAdd, Nat.reduceMul, Nat.reduceSub, Nat.zero_add, Nat.add_zero, Nat.mul_one, List.map_toArray, List.map_cons, List.map_nil, reduceCtorEq, Int.toNat_natCast, List.getElem?_toArray, List.getElem?_cons_zero, List.getElem?_cons_succ, Bool.not_true, Bool.not_false, bop_lss, bop_leq, bop_gtr, bop_geq, bop_eql, bop_neq, bop_add, bop_sub, bop_mul, bop_and, bop_or, bop_xor, bop_andNot, oc, List.cons_append, List.nil_append]
  (refine hK _ _ ?_; clear hK; try clear K)
  refine Wc_seq_k fun K hK => ?_
  refine Wc_plain [] rfl ?_
  simp only [true_and, vc_nil, ↓vc_move, ↓vc_assign, ↓vc_pick, ↓vc_nilCheck, ↓vc_bin, ↓vc_un, ↓vc_conv, ↓vc_extract, ↓vc_fieldAddr, ↓vc_len, ↓vc_cap, ↓vc_indexAddr, ↓vc_slice0, ↓vc_sliceH, ↓vc_sliceL, ↓vc_sliceB, ↓vc_load2, ↓vc_load1, ↓vc_store2, ↓vc_store1, ↓vc_call2, ↓vc_callW, ↓vc_callQ, ↓vc_guard, ↓ev_tmp, ↓ev_const, ↓ev_func, ↓lk_cons, ↓putL_some, ↓putL_none, ↓List.headD_nil, ↓List.tail_nil, ↓List.headD_cons, ↓List.tail_cons, thn, enumL, ↓reduceIte, Nat.reduceLT, Nat.reduceLeDiff, Nat.reduceEqDiff, Nat.reduceAdd, Nat.reduceMul, Nat.reduceSub, Nat.zero_add, Nat.add_zero, Nat.mul_one, List.map_toArray, List.map_cons, List.map_nil, reduceCtorEq, Int.toNat_natCast, List.getElem?_toArray, List.getElem?_cons_zero, List.getElem?_cons_succ, Bool.not_true, Bool.not_false, bop_lss, bop_leq, bop_gtr, bop_geq, bop_eql, bop_neq, bop_add, bop_sub, bop_mul, bop_and, bop_or, bop_xor, bop_andNot, oc, List.cons_append, List.nil_append, vc_make]
  refine Ro_make rfl mki30 rfl rfl (by omega) (by omega) (by omega) (by omega) ?_
  simp only [Int.toNat_natCast]
  have er : Array.replicate S (Value.int IntKind.u8 (Int.ofNat 0)) = RI .u8 (lastB x S 0) S := (RI_replicate _ _ _).trans (RI_congr fun j hj => (if_neg (by omega)).symm)
  rw [er]
  have k0 := Ch.push [] hh (.cells (RI .u8 (lastB x S 0) S) 5 (0, 0))
  have r0 := rowOf_push hh (RI .u8 (lastB x S 0) S) 5
  generalize hh0 : hh.push (.cells (RI .u8 (lastB x S 0) S) 5 (0, 0)) = h0 at k0 r0 ⊢
  (refine hK _ _ ?_; clear hK; try clear K)
  have hall : ∀ w, rowOf (hset h0 hh.size (RI .u8 w S) 5) hh.size = some (RI .u8 w S, 5) := fun w => rowOf_hset_self r0
  have ea : ∀ w, NA (hset h0 hh.size (RI .u8 w S) 5) b l n x := fun w => NA.row1 (e.ch k0 (by simp) (by simp)) (by omega) (by omega)
  refine Wc_seq_k fun Ko hKo => ?_
  refine Wc_seq_k fun K hK => ?_
  refine Wc_plain [] rfl ?_
  simp only [true_and, vc_nil, ↓vc_move, ↓vc_assign, ↓vc_pick, ↓vc_nilCheck, ↓vc_bin, ↓vc_un, ↓vc_conv, ↓vc_extract, ↓vc_fieldAddr, ↓vc_len, ↓vc_cap, ↓vc_indexAddr, ↓vc_slice0, ↓vc_sliceH, ↓vc_sliceL, ↓vc_sliceB, ↓vc_load2, ↓vc_load1, ↓vc_store2, ↓vc_store1, ↓vc_call2, ↓vc_callW, ↓vc_callQ, ↓vc_guard, ↓ev_tmp, ↓ev_const, ↓ev_func, ↓lk_cons, ↓putL_some, ↓putL_none, ↓List.headD_nil, ↓List.tail_nil, ↓List.headD_cons, ↓List.tail_cons, thn, enumL, ↓reduceIte, Nat.reduceLT, Nat.reduceLeDiff, Nat.reduceEqDiff, Nat.reduceAdd, Nat.reduceMul, Nat.reduceSub, Nat.zero_add, Nat.add_zero, Nat.mul_one, List.map_toArray, List.map_cons, List.map_nil, reduceCtorEq, Int.toNat_natCast, List.getElem?_toArray, List.getElem?_cons_zero, List.getElem?_cons_succ, Bool.not_true, Bool.not_false, bop_lss, bop_leq, bop_gtr, bop_geq, bop_eql, bop_neq, bop_add, bop_sub, bop_mul, bop_and, bop_or, bop_xor, bop_andNot, oc, List.cons_append, List.nil_append, foff108_0, one106, cel_row (e.ch k0 (by simp) (by simp)).hb, isl106]
  (refine hK _ _ ?_; clear hK; try clear K)
  refine Wc_block ?_
  refine Wc_rounds (α := Nat) (fun q => [(19, .int .i64 q), (5, .int .i64 (if 8 * q ≤ S then (S : Int) - 8 * q else -1)), (18, .int .i64 n), (17, .slice (some ⟨l, 0, none⟩) n 32), (6, .slice (some ⟨hh.size, 0, none⟩) S S)])
    (fun q => hset h0 hh.size (RI .u8 (lastB x S (min (8 * q) S)) S) 5) (fun q => q ≤ n) (fun q => n - q) 0 ⟨rfl, by simp [lk], rfl, rfl, rfl, trivial⟩ (by simp only [Nat.mul_zero, Nat.zero_min]; exact (hset_self r0).symm) (Nat.zero_le _) ?_
  rintro q D hq
  refine Wc_seq_k fun K hK => ?_
  refine Wc_plain [] rfl ?_
  simp only [true_and, vc_nil, ↓vc_move, ↓vc_assign, ↓vc_pick, ↓vc_nilCheck, ↓vc_bin, ↓vc_un, ↓vc_conv, ↓vc_extract, ↓vc_fieldAddr, ↓vc_len, ↓vc_cap, ↓vc_indexAddr, ↓vc_slice0, ↓vc_sliceH, ↓vc_sliceL, ↓vc_sliceB, ↓vc_load2, ↓vc_load1, ↓vc_store2, ↓vc_store1, ↓vc_call2, ↓vc_callW, ↓vc_callQ, ↓vc_guard, ↓ev_tmp, ↓ev_const, ↓ev_func, ↓lk_cons, ↓putL_some, ↓putL_none, ↓List.headD_nil, ↓List.tail_nil, ↓List.headD_cons, ↓List.tail_cons, thn, enumL, ↓reduceIte, Nat.reduceLT, Nat.reduceLeDiff, Nat.reduceEqDiff, Nat.reduceAdd, Nat.reduceMul, Nat.reduceSub, Nat.zero_add, Nat.add_zero, Nat.mul_one, List.map_toArray, List.map_cons, List.map_nil, reduceCtorEq, Int.toNat_natCast, List.getElem?_toArray, List.getElem?_cons_zero, List.getElem?_cons_succ, Bool.not_true, Bool.not_false, bop_lss, bop_leq, bop_gtr, bop_geq, bop_eql, bop_neq, bop_add, bop_sub, bop_mul, bop_and, bop_or, bop_xor, bop_andNot, oc, List.cons_append, List.nil_append]
  (refine hK _ _ ?_; clear hK; try clear K)
  refine Wc_seq_k fun K hK => ?_
  refine Wc_cond rfl (fun ht => ?_) (fun hf => ?_)
  · have hlt : q < n := by have := of_decide_eq_true ht; omega
    have h8q : 8 * q ≤ S := by omega
    simp only [if_pos h8q, Nat.min_eq_left h8q]
    refine Wc_skip ?_
    (refine hK _ _ ?_; clear hK; try clear K)
    have hq1 : IntKind.i64.wrap ((q : Int) + 1) = (q : Int) + 1 := wrap_i64_id (by omega) (by omega)
    refine Wc_seq_k fun Kp hKp => ?_
    have fin3 : ∀ L : FL, lk L 19 = .int .i64 q → lk L 5 = .int .i64 (if 8 * (q + 1) ≤ S then (S : Int) - 8 * ((q + 1 : Nat) : Int) else -1) → lk L 18 = .int .i64 n → lk L 17 = .slice (some ⟨l, 0, none⟩) n 32 → lk L 6 = .slice (some ⟨hh.size, 0, none⟩) S S →
        Kp L (hset h0 hh.size (RI .u8 (lastB x S (min (8 * (q + 1)) S)) S) 5) := by
      intro L l19 l5 l18 l17 l6
      (refine hKp _ _ ?_; clear hKp; try clear Kp)
      refine Wc_plain [] rfl ?_
      simp only [true_and, vc_nil, ↓vc_move, ↓vc_assign, ↓vc_pick, ↓vc_nilCheck, ↓vc_bin, ↓vc_un, ↓vc_conv, ↓vc_extract, ↓vc_fieldAddr, ↓vc_len, ↓vc_cap, ↓vc_indexAddr, ↓vc_slice0, ↓vc_sliceH, ↓vc_sliceL, ↓vc_sliceB, ↓vc_load2, ↓vc_load1, ↓vc_store2, ↓vc_store1, ↓vc_call2, ↓vc_callW, ↓vc_callQ, ↓vc_guard, ↓ev_tmp, ↓ev_const, ↓ev_func, ↓lk_cons, ↓putL_some, ↓putL_none, ↓List.headD_nil, ↓List.tail_nil, ↓List.headD_cons, ↓List.tail_cons, thn, enumL, ↓reduceIte, Nat.reduceLT, Nat.reduceLeDiff, Nat.reduceEqDiff, Nat.reduceAdd, Nat.reduceMul, Nat.reduceSub, Nat.zero_add, Nat.add_zero, Nat.mul_one, List.map_toArray, List.map_cons, List.map_nil, reduceCtorEq, Int.toNat_natCast, List.getElem?_toArray, List.getElem?_cons_zero, List.getElem?_cons_succ, Bool.not_true, Bool.not_false, bop_lss, bop_leq, bop_gtr, bop_geq, bop_eql, bop_neq, bop_add, bop_sub, bop_mul, bop_and, bop_or, bop_xor, bop_andNot, oc, List.cons_append, List.nil_append, l19, hq1]
      exact ⟨q + 1, by omega, by omega, by simp only [chk, ↓lk_cons, ↓reduceIte, Nat.reduceEqDiff, List.cons_append, List.nil_append, cast_succ, and_self, l5, l18, l17, l6], rfl⟩
    refine Wc_block ?_
    refine Wc_seq_k fun K hK => ?_
    refine Wc_plain [] rfl ?_
    simp only [true_and, vc_nil, ↓vc_move, ↓vc_assign, ↓vc_pick, ↓vc_nilCheck, ↓vc_bin, ↓vc_un, ↓vc_conv, ↓vc_extract, ↓vc_fieldAddr, ↓vc_len, ↓vc_cap, ↓vc_indexAddr, ↓vc_slice0, ↓vc_sliceH, ↓vc_sliceL, ↓vc_sliceB, ↓vc_load2, ↓vc_load1, ↓vc_store2, ↓vc_store1, ↓vc_call2, ↓vc_callW, ↓vc_callQ, ↓vc_guard, ↓ev_tmp, ↓ev_const, ↓ev_func, ↓lk_cons, ↓putL_some, ↓putL_none, ↓List.headD_nil, ↓List.tail_nil, ↓List.headD_cons, ↓List.tail_cons, thn, enumL, ↓reduceIte, Nat.reduceLT, Nat.reduceLeDiff, Nat.reduceEqDiff, Nat.reduceAdd, Nat.reduceMul, Nat.reduceSub, Nat.zero_add, Nat.add_zero, Nat.mul_one, List.map_toArray, List.map_cons, List.map_nil, reduceCtorEq, Int.toNat_natCast, List.getElem?_toArray, List.getElem?_cons_zero, List.getElem?_cons_succ, Bool.not_true, Bool.not_false, bop_lss, bop_leq, bop_gtr, bop_geq, bop_eql, bop_neq, bop_add, bop_sub, bop_mul, bop_and, bop_or, bop_xor, bop_andNot, oc, List.cons_append, List.nil_append, esz106, one102, cel_row (ea _).hl, U_get (show q < 32 by omega)]
    refine ⟨⟨by omega, by omega⟩, ?_⟩
    (refine hK _ _ ?_; clear hK; try clear K)
    refine Wc_seq_k fun K hK => ?_
    refine Wc_plain [] rfl ?_
    simp only [true_and, vc_nil, ↓vc_move, ↓vc_assign, ↓vc_pick, ↓vc_nilCheck, ↓vc_bin, ↓vc_un, ↓vc_conv, ↓vc_extract, ↓vc_fieldAddr, ↓vc_len, ↓vc_cap, ↓vc_indexAddr, ↓vc_slice0, ↓vc_sliceH, ↓vc_sliceL, ↓vc_sliceB, ↓vc_load2, ↓vc_load1, ↓vc_store2, ↓vc_store1, ↓vc_call2, ↓vc_callW, ↓vc_callQ, ↓vc_guard, ↓ev_tmp, ↓ev_const, ↓ev_func, ↓lk_cons, ↓putL_some, ↓putL_none, ↓List.headD_nil, ↓List.tail_nil, ↓List.headD_cons, ↓List.tail_cons, thn, enumL, ↓reduceIte, Nat.reduceLT, Nat.reduceLeDiff, Nat.reduceEqDiff, Nat.reduceAdd, Nat.reduceMul, Nat.reduceSub, Nat.zero_add, Nat.add_zero, Nat.mul_one, List.map_toArray, List.map_cons, List.map_nil, reduceCtorEq, Int.toNat_natCast, List.getElem?_toArray, List.getElem?_cons_zero, List.getElem?_cons_succ, Bool.not_true, Bool.not_false, bop_lss, bop_leq, bop_gtr, bop_geq, bop_eql, bop_neq, bop_add, bop_sub, bop_mul, bop_and, bop_or, bop_xor, bop_andNot, oc, List.cons_append, List.nil_append]
    (refine hK _ _ ?_; clear hK; try clear K)
    refine Wc_block ?_
    refine Wc_rounds (α := Nat) (fun t => [(9, .int .i64 t), (5, .int .i64 ((S : Int) - 8 * q - t)), (8, .int .u64 ((x q / 256 ^ t : Nat) : Int)), (19, .int .i64 q), (18, .int .i64 n), (17, .slice (some ⟨l, 0, none⟩) n 32), (6, .slice (some ⟨hh.size, 0, none⟩) S S)])
      (fun t => hset h0 hh.size (RI .u8 (lastB x S (8 * q + t)) S) 5) (fun t => t ≤ 8 ∧ 8 * q + t ≤ S) (fun t => 8 - t) 0 ⟨rfl, by simp [lk], by simp [lk], rfl, rfl, rfl, rfl, trivial⟩ rfl ⟨by decide, by omega⟩ ?_
    rintro t D2 ⟨ht, hqt⟩
    refine Wc_seq_k fun K hK => ?_
    refine Wc_seq_k fun K hK => ?_
    refine Wc_plain [] rfl ?_
    simp only [true_and, vc_nil, ↓vc_move, ↓vc_assign, ↓vc_pick, ↓vc_nilCheck, ↓vc_bin, ↓vc_un, ↓vc_conv, ↓vc_extract, ↓vc_fieldAddr, ↓vc_len, ↓vc_cap, ↓vc_indexAddr, ↓vc_slice0, ↓vc_sliceH, ↓vc_sliceL, ↓vc_sliceB, ↓vc_load2, ↓vc_load1, ↓vc_store2, ↓vc_store1, ↓vc_call2, ↓vc_callW, ↓vc_callQ, ↓vc_guard, ↓ev_tmp, ↓ev_const, ↓ev_func, ↓lk_cons, ↓putL_some, ↓putL_none, ↓List.headD_nil, ↓List.tail_nil, ↓List.headD_cons, ↓List.tail_cons, thn, enumL, ↓reduceIte, Nat.reduceLT, Nat.reduceLeDiff, Nat.reduceEqDiff, Nat.reduceAdd, Nat.reduceMul, Nat.reduceSub, Nat.zero_add, Nat.add_zero, Nat.mul_one, List.map_toArray, List.map_cons, List.map_nil, reduceCtorEq, Int.toNat_natCast, List.getElem?_toArray, List.getElem?_cons_zero, List.getElem?_cons_succ, Bool.not_true, Bool.not_false, bop_lss, bop_leq, bop_gtr, bop_geq, bop_eql, bop_neq, bop_add, bop_sub, bop_mul, bop_and, bop_or, bop_xor, bop_andNot, oc, List.cons_append, List.nil_append]
    (refine hK _ _ ?_; clear hK; try clear K)
    refine Wc_cond rfl (fun ht8 => ?_) (fun hf => ?_)
    · have hlt8 : t < 8 := by have := of_decide_eq_true ht8; omega
      have hi1 : IntKind.i64.wrap ((S : Int) - 8 * q - t - 1) = (S : Int) - 8 * q - t - 1 := wrap_i64_id (by omega) (by omega)
      have ht1 : IntKind.i64.wrap ((t : Int) + 1) = (t : Int) + 1 := wrap_i64_id (by omega) (by omega)
      refine Wc_skip ?_
      (refine hK _ _ ?_; clear hK; try clear K)
      refine Wc_seq_k fun K hK => ?_
      refine Wc_block ?_
      refine Wc_seq_k fun K hK => ?_
      refine Wc_plain [] rfl ?_
      simp only [true_and, vc_nil, ↓vc_move, ↓vc_assign, ↓vc_pick, ↓vc_nilCheck, ↓vc_bin, ↓vc_un, ↓vc_conv, ↓vc_extract, ↓vc_fieldAddr, ↓vc_len, ↓vc_cap, ↓vc_indexAddr, ↓vc_slice0, ↓vc_sliceH, ↓vc_sliceL, ↓vc_sliceB, ↓vc_load2, ↓vc_load1, ↓vc_store2, ↓vc_store1, ↓vc_call2, ↓vc_callW, ↓vc_callQ, ↓vc_guard, ↓ev_tmp, ↓ev_const, ↓ev_func, ↓lk_cons, ↓putL_some, ↓putL_none, ↓List.headD_nil, ↓List.tail_nil, ↓List.headD_cons, ↓List.tail_cons, thn, enumL, ↓reduceIte, Nat.reduceLT, Nat.reduceLeDiff, Nat.reduceEqDiff, Nat.reduceAdd, Nat.reduceMul, Nat.reduceSub, Nat.zero_add, Nat.add_zero, Nat.mul_one, List.map_toArray, List.map_cons, List.map_nil, reduceCtorEq, Int.toNat_natCast, List.getElem?_toArray, List.getElem?_cons_zero, List.getElem?_cons_succ, Bool.not_true, Bool.not_false, bop_lss, bop_leq, bop_gtr, bop_geq, bop_eql, bop_neq, bop_add, bop_sub, bop_mul, bop_and, bop_or, bop_xor, bop_andNot, oc, List.cons_append, List.nil_append, hi1]
      (refine hK _ _ ?_; clear hK; try clear K)
      refine Wc_seq_k fun Kr hKr => ?_
      refine Wc_seq_k fun K hK => ?_
      refine Wc_plain [] rfl ?_
      simp only [true_and, vc_nil, ↓vc_move, ↓vc_assign, ↓vc_pick, ↓vc_nilCheck, ↓vc_bin, ↓vc_un, ↓vc_conv, ↓vc_extract, ↓vc_fieldAddr, ↓vc_len, ↓vc_cap, ↓vc_indexAddr, ↓vc_slice0, ↓vc_sliceH, ↓vc_sliceL, ↓vc_sliceB, ↓vc_load2, ↓vc_load1, ↓vc_store2, ↓vc_store1, ↓vc_call2, ↓vc_callW, ↓vc_callQ, ↓vc_guard, ↓ev_tmp, ↓ev_const, ↓ev_func, ↓lk_cons, ↓putL_some, ↓putL_none, ↓List.headD_nil, ↓List.tail_nil, ↓List.headD_cons, ↓List.tail_cons, thn, enumL, ↓reduceIte, Nat.reduceLT, Nat.reduceLeDiff, Nat.reduceEqDiff, Nat.reduceAdd, Nat.reduceMul, Nat.reduceSub, Nat.zero_add, Nat.add_zero, Nat.mul_one, List.map_toArray, List.map_cons, List.map_nil, reduceCtorEq, Int.toNat_natCast, List.getElem?_toArray, List.getElem?_cons_zero, List.getElem?_cons_succ, Bool.not_true, Bool.not_false, bop_lss, bop_leq, bop_gtr, bop_geq, bop_eql, bop_neq, bop_add, bop_sub, bop_mul, bop_and, bop_or, bop_xor, bop_andNot, oc, List.cons_append, List.nil_append]
      (refine hK _ _ ?_; clear hK; try clear K)
      refine Wc_cond rfl (fun hneg => ?_) (fun hpos => ?_)
      · have hS : S = 8 * q + t := by have := of_decide_eq_true hneg; omega
        have hqn : n = q + 1 := by omega
        have hx0 : x q / 256 ^ t = 0 := Nat.div_eq_of_lt (top_lt (by rw [← hqn, ← hS]; exact hx))
        rw [hx0]
        refine Wc_seq_k fun K hK => ?_
        refine Wc_seq_k fun K hK => ?_
        refine Wc_plain [] rfl ?_
        simp only [true_and, vc_nil, ↓vc_move, ↓vc_assign, ↓vc_pick, ↓vc_nilCheck, ↓vc_bin, ↓vc_un, ↓vc_conv, ↓vc_extract, ↓vc_fieldAddr, ↓vc_len, ↓vc_cap, ↓vc_indexAddr, ↓vc_slice0, ↓vc_sliceH, ↓vc_sliceL, ↓vc_sliceB, ↓vc_load2, ↓vc_load1, ↓vc_store2, ↓vc_store1, ↓vc_call2, ↓vc_callW, ↓vc_callQ, ↓vc_guard, ↓ev_tmp, ↓ev_const, ↓ev_func, ↓lk_cons, ↓putL_some, ↓putL_none, ↓List.headD_nil, ↓List.tail_nil, ↓List.headD_cons, ↓List.tail_cons, thn, enumL, ↓reduceIte, Nat.reduceLT, Nat.reduceLeDiff, Nat.reduceEqDiff, Nat.reduceAdd, Nat.reduceMul, Nat.reduceSub, Nat.zero_add, Nat.add_zero, Nat.mul_one, List.map_toArray, List.map_cons, List.map_nil, reduceCtorEq, Int.toNat_natCast, List.getElem?_toArray, List.getElem?_cons_zero, List.getElem?_cons_succ, Bool.not_true, Bool.not_false, bop_lss, bop_leq, bop_gtr, bop_geq, bop_eql, bop_neq, bop_add, bop_sub, bop_mul, bop_and, bop_or, bop_xor, bop_andNot, oc, List.cons_append, List.nil_append]
        (refine hK _ _ ?_; clear hK; try clear K)
        refine Wc_cond (t := true) rfl (fun _ => ?_) (fun hf => by cases hf)
        refine Wc_exit ?_
        simp only [thn, inB, ↓reduceIte, Nat.reduceEqDiff]
        have hm : min (8 * (q + 1)) S = 8 * q + t := by omega
        rw [hm] at fin3
        refine fin3 _ rfl ?_ rfl rfl rfl
        rw [if_neg (by omega)]
        simp only [lk_cons, ↓reduceIte, Nat.reduceEqDiff, List.cons_append]
        congr 1; omega
      · obtain ⟨p, hp⟩ : ∃ p, S = 8 * q + t + 1 + p := ⟨S - 8 * q - t - 1, by have := of_decide_eq_false hpos; omega⟩
        have ep : (S : Int) - 8 * q - t - 1 = (p : Int) := by omega
        have ew : IntKind.u8.wrap ((x q / 256 ^ t : Nat) : Int) = ((byteN x (8 * q + t) : Nat) : Int) := by
          rw [IntKind.wrap_u8]
          unfold byteN
          rw [show (8 * q + t) / 8 = q by omega, show (8 * q + t) % 8 = t by omega]
          rfl
        simp only [ep]
        refine Wc_skip ?_
        (refine hKr _ _ ?_; clear hKr; try clear Kr)
        refine Wc_seq_k fun K hK => ?_
        refine Wc_plain [] rfl ?_
        simp only [true_and, vc_nil, ↓vc_move, ↓vc_assign, ↓vc_pick, ↓vc_nilCheck, ↓vc_bin, ↓vc_un, ↓vc_conv, ↓vc_extract, ↓vc_fieldAddr, ↓vc_len, ↓vc_cap, ↓vc_indexAddr, ↓vc_slice0, ↓vc_sliceH, ↓vc_sliceL, ↓vc_sliceB, ↓vc_load2, ↓vc_load1, ↓vc_store2, ↓vc_store1, ↓vc_call2, ↓vc_callW, ↓vc_callQ, ↓vc_guard, ↓ev_tmp, ↓ev_const, ↓ev_func, ↓lk_cons, ↓putL_some, ↓putL_none, ↓List.headD_nil, ↓List.tail_nil, ↓List.headD_cons, ↓List.tail_cons, thn, enumL, ↓reduceIte, Nat.reduceLT, Nat.reduceLeDiff, Nat.reduceEqDiff, Nat.reduceAdd, Nat.reduceMul, Nat.reduceSub, Nat.zero_add, Nat.add_zero, Nat.mul_one, List.map_toArray, List.map_cons, List.map_nil, reduceCtorEq, Int.toNat_natCast, List.getElem?_toArray, List.getElem?_cons_zero, List.getElem?_cons_succ, Bool.not_true, Bool.not_false, bop_lss, bop_leq, bop_gtr, bop_geq, bop_eql, bop_neq, bop_add, bop_sub, bop_mul, bop_and, bop_or, bop_xor, bop_andNot, oc, List.cons_append, List.nil_append, ikd102_5, ew, esz30, sz5, hall, RI_size]
        refine ⟨⟨by omega, by omega⟩, by omega, ?_⟩
        have el : RI .u8 (fun j => if j = p then ((byteN x (8 * q + t) : Nat) : Int) else lastB x S (8 * q + t) j) S = RI .u8 (lastB x S (8 * q + (t + 1))) S := RI_congr fun j hj => by
          unfold lastB
          by_cases h1 : j = p
          · rw [if_pos h1, if_pos (by omega)]
            congr 2; omega
          · rw [if_neg h1]
            by_cases h2 : S - (8 * q + t) ≤ j
            · rw [if_pos h2, if_pos (by omega)]
            · rw [if_neg h2, if_neg (by omega)]
        rw [RI_set, el, hset_hset]
        (refine hK _ _ ?_; clear hK; try clear K)
        refine Wc_plain [] rfl ?_
        simp only [true_and, vc_nil, ↓vc_move, ↓vc_assign, ↓vc_pick, ↓vc_nilCheck, ↓vc_bin, ↓vc_un, ↓vc_conv, ↓vc_extract, ↓vc_fieldAddr, ↓vc_len, ↓vc_cap, ↓vc_indexAddr, ↓vc_slice0, ↓vc_sliceH, ↓vc_sliceL, ↓vc_sliceB, ↓vc_load2, ↓vc_load1, ↓vc_store2, ↓vc_store1, ↓vc_call2, ↓vc_callW, ↓vc_callQ, ↓vc_guard, ↓ev_tmp, ↓ev_const, ↓ev_func, ↓lk_cons, ↓putL_some, ↓putL_none, ↓List.headD_nil, ↓List.tail_nil, ↓List.headD_cons, ↓List.tail_cons, thn, enumL, ↓reduceIte, Nat.reduceLT, Nat.reduceLeDiff, Nat.reduceEqDiff, Nat.reduceAdd, Nat.reduceMul, Nat.reduceSub, Nat.zero_add, Nat.add_zero, Nat.mul_one, List.map_toArray, List.map_cons, List.map_nil, reduceCtorEq, Int.toNat_natCast, List.getElem?_toArray, List.getElem?_cons_zero, List.getElem?_cons_succ, Bool.not_true, Bool.not_false, bop_lss, bop_leq, bop_gtr, bop_geq, bop_eql, bop_neq, bop_add, bop_sub, bop_mul, bop_and, bop_or, bop_xor, bop_andNot, oc, List.cons_append, List.nil_append, shr8, Nat.div_div_eq_div_mul, inB]
        (refine hK _ _ ?_; clear hK; try clear K)
        refine Wc_plain [] rfl ?_
        simp only [true_and, vc_nil, ↓vc_move, ↓vc_assign, ↓vc_pick, ↓vc_nilCheck, ↓vc_bin, ↓vc_un, ↓vc_conv, ↓vc_extract, ↓vc_fieldAddr, ↓vc_len, ↓vc_cap, ↓vc_indexAddr, ↓vc_slice0, ↓vc_sliceH, ↓vc_sliceL, ↓vc_sliceB, ↓vc_load2, ↓vc_load1, ↓vc_store2, ↓vc_store1, ↓vc_call2, ↓vc_callW, ↓vc_callQ, ↓vc_guard, ↓ev_tmp, ↓ev_const, ↓ev_func, ↓lk_cons, ↓putL_some, ↓putL_none, ↓List.headD_nil, ↓List.tail_nil, ↓List.headD_cons, ↓List.tail_cons, thn, enumL, ↓reduceIte, Nat.reduceLT, Nat.reduceLeDiff, Nat.reduceEqDiff, Nat.reduceAdd, Nat.reduceMul, Nat.reduceSub, Nat.zero_add, Nat.add_zero, Nat.mul_one, List.map_toArray, List.map_cons, List.map_nil, reduceCtorEq, Int.toNat_natCast, List.getElem?_toArray, List.getElem?_cons_zero, List.getElem?_cons_succ, Bool.not_true, Bool.not_false, bop_lss, bop_leq, bop_gtr, bop_geq, bop_eql, bop_neq, bop_add, bop_sub, bop_mul, bop_and, bop_or, bop_xor, bop_andNot, oc, List.cons_append, List.nil_append, ht1]
        refine ⟨t + 1, ⟨by omega, by omega⟩, by omega, ?_, rfl⟩
        simp only [chk, ↓lk_cons, ↓reduceIte, Nat.reduceEqDiff, List.cons_append, List.nil_append, cast_succ, and_self]
        exact ⟨trivial, by congr 1; omega, by rw [Nat.pow_succ], trivial⟩
    · have ht8 : t = 8 := by have := of_decide_eq_false hf; omega
      subst ht8
      refine Wc_exit ?_
      simp only [thn, inB, ↓reduceIte, Nat.reduceEqDiff]
      have hm : min (8 * (q + 1)) S = 8 * q + 8 := by omega
      rw [hm] at fin3
      refine fin3 _ rfl ?_ rfl rfl rfl
      rw [if_pos (by omega)]
      simp only [lk_cons, ↓reduceIte, Nat.reduceEqDiff, List.cons_append]
      congr 1; omega
  have hqn : q = n := by have := of_decide_eq_false hf; omega
  subst hqn
  refine Wc_exit ?_
  simp only [thn, inB, ↓reduceIte]
  (refine hKo _ _ ?_; clear hKo; try clear Ko)
  rw [Nat.min_eq_right h2]
  refine Wc_seq_k fun K hK => ?_
  refine Wc_plain [] rfl ?_
  simp only [true_and, vc_nil, ↓vc_move, ↓vc_assign, ↓vc_pick, ↓vc_nilCheck, ↓vc_bin, ↓vc_un, ↓vc_conv, ↓vc_extract, ↓vc_fieldAddr, ↓vc_len, ↓vc_cap, ↓vc_indexAddr, ↓vc_slice0, ↓vc_sliceH, ↓vc_sliceL, ↓vc_sliceB, ↓vc_load2, ↓vc_load1, ↓vc_store2, ↓vc_store1, ↓vc_call2, ↓vc_callW, ↓vc_callQ, ↓vc_guard, ↓ev_tmp, ↓ev_const, ↓ev_func, ↓lk_cons, ↓putL_some, ↓putL_none, ↓List.headD_nil, ↓List.tail_nil, ↓List.headD_cons, ↓List.tail_cons, thn, enumL, ↓reduceIte, Nat.reduceLT, Nat.reduceLeDiff, Nat.reduceEqDiff, Nat.reduceAdd, Nat.reduceMul, Nat.reduceSub, Nat.zero_add, Nat.add_zero, Nat.mul_one, List.map_toArray, List.map_cons, List.map_nil, reduceCtorEq, Int.toNat_natCast, List.getElem?_toArray, List.getElem?_cons_zero, List.getElem?_cons_succ, Bool.not_true, Bool.not_false, bop_lss, bop_leq, bop_gtr, bop_geq, bop_eql, bop_neq, bop_add, bop_sub, bop_mul, bop_and, bop_or, bop_xor, bop_andNot, oc, List.cons_append, List.nil_append]
  (refine hK _ _ ?_; clear hK; try clear K)
  refine Wc_ret ?_
  simp only [true_and, fin, resV, ↓ev_tmp, ↓lk_cons, ↓reduceIte, Nat.reduceLT, Nat.reduceEqDiff, List.cons_append, List.nil_append, res57]
  refine ⟨?_, (k0.sub (by simp)).trans (Ch.hset (B := [hh.size]) _ _ _ (by simp)) |>.new (fun i hi => .inr (by simp at hi; omega))⟩
  rw [hall]
  congr 2
  exact RI_congr fun j hj => if_pos (by omega)
end Go.Proofs.Ytfakfllmbfjofaa
