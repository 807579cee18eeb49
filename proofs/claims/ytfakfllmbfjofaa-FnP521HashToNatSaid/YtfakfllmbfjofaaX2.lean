/- spec: Number. -/
import Derived.Test.YtfakfllmbfjofaaX1
import Derived.Test.YtfakfllmbfjofaaH4
open Go Go.Fl
namespace Go.Proofs.Ytfakfllmbfjofaa
set_option linter.unusedSimpArgs false
set_option linter.unusedVariables false
set_option maxRecDepth 100000

/-- the bytes that the first i rounds have put in: byte t, the lowest first -/
def zm (y : Nat → Nat) (S i t : Nat) : Nat := if S ≤ t + i then zb y S t else 0
/-- the words when i rounds are done -/
def wI (y : Nat → Nat) (S i j : Nat) : Nat := BN.numB (fun u => zm y S i (4 * j + u)) 4
/-- the words of a number of bytes -/
def wz (y : Nat → Nat) (S j : Nat) : Nat := BN.numB (fun u => zb y S (4 * j + u)) 4

theorem num4_upd (f g : Nat → Nat) (r v : Nat) (hr : r < 4) (hg : ∀ u, u < 4 → g u = if u = r then f u + v else f u) : BN.numB g 4 = BN.numB f 4 + v * 256 ^ r := by
  have h0 := hg 0 (by omega)
  have h1 := hg 1 (by omega)
  have h2 := hg 2 (by omega)
  have h3 := hg 3 (by omega)
  have hr' : r = 0 ∨ r = 1 ∨ r = 2 ∨ r = 3 := by omega
  rcases hr' with rfl | rfl | rfl | rfl <;> simp at h0 h1 h2 h3 <;> simp only [BN.numB, h0, h1, h2, h3, Nat.add_mul] <;> omega

theorem num4_same (f g : Nat → Nat) (h : ∀ u, u < 4 → g u = f u) : BN.numB g 4 = BN.numB f 4 := by
  simp only [BN.numB, h 0 (by omega), h 1 (by omega), h 2 (by omega), h 3 (by omega)]

theorem wI_step {y : Nat → Nat} {S i at_ : Nat} (hat : S - 1 - i = at_) (hi : i < S) (j : Nat) : wI y S (i + 1) j = if j = at_ / 4 then wI y S i j + y i * 256 ^ (at_ % 4) else wI y S i j := by
  have hz : ∀ t, zm y S (i + 1) t = if t = at_ then zm y S i t + y i else zm y S i t := by
    intro t
    unfold zm
    by_cases h1 : t = at_
    · rw [if_pos (by omega), if_pos h1, if_neg (by omega), zb_in (by omega), Nat.zero_add]; congr 1; omega
    · rw [if_neg h1]
      by_cases h2 : S ≤ t + i
      · rw [if_pos (by omega), if_pos h2]
      · rw [if_neg (by omega), if_neg h2]
  have hr : at_ % 4 < 4 := Nat.mod_lt _ (by decide)
  by_cases hj : j = at_ / 4
  · rw [if_pos hj]
    have h4 : at_ = 4 * j + at_ % 4 := by omega
    generalize at_ % 4 = r at hr h4 ⊢
    have hg : ∀ u, u < 4 → (fun u => zm y S (i + 1) (4 * j + u)) u = if u = r then (fun u => zm y S i (4 * j + u)) u + y i else (fun u => zm y S i (4 * j + u)) u := by
      intro u hu
      have := hz (4 * j + u)
      by_cases hur : u = r
      · rw [if_pos hur]; rw [if_pos (by omega)] at this; exact this
      · rw [if_neg hur]; rw [if_neg (by omega)] at this; exact this
    have h := num4_upd _ _ r (y i) hr hg
    unfold wI
    exact h
  · rw [if_neg hj]
    unfold wI
    refine num4_same _ _ fun u hu => ?_
    have := hz (4 * j + u)
    rw [if_neg (by omega)] at this
    exact this

theorem wI_lt {y : Nat → Nat} (hy : ∀ j, y j < 256) (S i j : Nat) : wI y S i j < 4294967296 := by
  have hz : ∀ u, (fun u => zm y S i (4 * j + u)) u < 256 := fun u => ite_lt (ite_lt (hy _) (by decide)) (by decide)
  exact BN.numB_lt hz 4
theorem wz_lt {y : Nat → Nat} (hy : ∀ j, y j < 256) (S j : Nat) : wz y S j < 4294967296 := by
  have hz : ∀ u, (fun u => zb y S (4 * j + u)) u < 256 := fun u => ite_lt (hy _) (by decide)
  exact BN.numB_lt hz 4
theorem wI_0 (y : Nat → Nat) (S j : Nat) : wI y S 0 j = 0 := by
  have : (fun u => zm y S 0 (4 * j + u)) = fun _ => 0 := funext fun u => by
    unfold zm zb
    by_cases h : S ≤ 4 * j + u + 0
    · rw [if_pos h, if_neg (by omega)]
    · rw [if_neg h]
  unfold wI
  rw [this]
  rfl
theorem wI_S (y : Nat → Nat) (S j : Nat) : wI y S S j = wz y S j := by
  unfold wI wz
  congr 1
  funext u
  unfold zm
  rw [if_pos (by omega)]

/-- the number of words of bytes -/
theorem val_wz (y : Nat → Nat) (S : Nat) : ∀ V, BW.val (wz y S) V = BN.numB (zb y S) (4 * V)
  | 0 => by simp [BW.val, BN.numB]
  | V + 1 => by
    rw [BW.val, val_wz y S V, Nat.mul_add, Nat.mul_one, BN.numB_add, wz]
    congr 1
    rw [Nat.pow_mul, Nat.mul_comm]

theorem Number_inv (w0 : World) {h : Hp} {c0 c3 vb : Value} {S V : Nat} {y : Nat → Nat} (hb : Rd .u8 h vb S (fun j => (y j : Int))) (hy : ∀ j, y j < 256) (hS0 : 0 < S) (hS : S ≤ 4 * V) (hV : V ≤ 32) :
    Inv Try.prog w0 30 #[.agg #[c0, .int .i64 S, .int .i64 V, c3], vb] h fun v h' =>
      ∃ bo, v = .slice (some ⟨bo, 0, none⟩) V V ∧ rowOf h' bo = some (RI .i64 (fun j => (wz y S j : Int)) V, 2) ∧ Ch [] h h' ∧ h.size ≤ bo := by
  obtain ⟨ab, cb, rfl, hb1, hb2, hb3⟩ := hb
  obtain ⟨bb, ob, rfl, hcb⟩ := hb3 hS0
  refine Inv_of_Wc (args := [_, _]) Try.func30 rfl Try.ntmps30 (Nat.le_of_ble_eq_true rfl) hb30 ?_
  refine Wc_seq_k fun K hK => ?_
  refine Wc_plain [] rfl ?_
  simp only [true_and, vc_nil, ↓vc_move, ↓vc_assign, ↓vc_pick, ↓vc_nilCheck, ↓vc_bin, ↓vc_un, ↓vc_conv, ↓vc_extract, ↓vc_fieldAddr, ↓vc_len, ↓vc_cap, ↓vc_indexAddr, ↓vc_slice0, ↓vc_sliceH, ↓vc_sliceL, ↓vc_sliceB, ↓vc_load2, ↓vc_load1, ↓vc_store2, ↓vc_store1, ↓vc_call2, ↓vc_callW, ↓vc_callQ, ↓vc_guard, ↓ev_tmp, ↓ev_const, ↓ev_func, ↓lk_cons, ↓putL_some, ↓putL_none, ↓List.headD_nil, ↓List.tail_nil, ↓List.headD_cons, ↓List.tail_cons, thn, enumL, ↓reduceIte, Nat.reduceLT, Nat.reduceLeDiff, Nat.reduceEqDiff, Nat.reduceAdd, Nat.reduceMul, Nat.reduceSub, Nat.zero_add, Nat.add_zero, Nat.mul_one, List.map_toArray, List.map_cons, List.map_nil, reduceCtorEq, Int.toNat_natCast, List.getElem?_toArray, List.getElem?_cons_zero, List.getElem?_cons_succ, Bool.not_true, Bool.not_false, bop_lss, bop_leq, bop_gtr, bop_geq, bop_eql, bop_neq, bop_add, bop_sub, bop_mul, bop_and, bop_or, bop_xor, bop_andNot, oc, List.cons_append, List.nil_append, vc_box2]
  refine Ro_box rfl ?_
  simp only [true_and, vc_nil, ↓vc_move, ↓vc_assign, ↓vc_pick, ↓vc_nilCheck, ↓vc_bin, ↓vc_un, ↓vc_conv, ↓vc_extract, ↓vc_fieldAddr, ↓vc_len, ↓vc_cap, ↓vc_indexAddr, ↓vc_slice0, ↓vc_sliceH, ↓vc_sliceL, ↓vc_sliceB, ↓vc_load2, ↓vc_load1, ↓vc_store2, ↓vc_store1, ↓vc_call2, ↓vc_callW, ↓vc_callQ, ↓vc_guard, ↓ev_tmp, ↓ev_const, ↓ev_func, ↓lk_cons, ↓putL_some, ↓putL_none, ↓List.headD_nil, ↓List.tail_nil, ↓List.headD_cons, ↓List.tail_cons, thn, enumL, ↓reduceIte, Nat.reduceLT, Nat.reduceLeDiff, Nat.reduceEqDiff, Nat.reduceAdd, Nat.reduceMul, Nat.reduceSub, Nat.zero_add, Nat.add_zero, Nat.mul_one, List.map_toArray, List.map_cons, List.map_nil, reduceCtorEq, Int.toNat_natCast, List.getElem?_toArray, List.getElem?_cons_zero, List.getElem?_cons_succ, Bool.not_true, Bool.not_false, bop_lss, bop_leq, bop_gtr, bop_geq, bop_eql, bop_neq, bop_add, bop_sub, bop_mul, bop_and, bop_or, bop_xor, bop_andNot, oc, List.cons_append, List.nil_append]
  show K _ (h.push (.cells #[c0, .int .i64 S, .int .i64 V, c3] 24 (0, 0)))
  have k1 := Ch.push [] h (.cells #[c0, .int .i64 S, .int .i64 V, c3] 24 (0, 0))
  have r1 := rowOf_push h #[c0, .int .i64 S, .int .i64 V, c3] 24
  generalize h.push (.cells #[c0, .int .i64 S, .int .i64 V, c3] 24 (0, 0)) = h1 at k1 r1 ⊢
  (refine hK _ _ ?_; clear hK; try clear K)
  refine Wc_seq_k fun K hK => ?_
  refine Wc_plain [] rfl ?_
  simp only [true_and, vc_nil, ↓vc_move, ↓vc_assign, ↓vc_pick, ↓vc_nilCheck, ↓vc_bin, ↓vc_un, ↓vc_conv, ↓vc_extract, ↓vc_fieldAddr, ↓vc_len, ↓vc_cap, ↓vc_indexAddr, ↓vc_slice0, ↓vc_sliceH, ↓vc_sliceL, ↓vc_sliceB, ↓vc_load2, ↓vc_load1, ↓vc_store2, ↓vc_store1, ↓vc_call2, ↓vc_callW, ↓vc_callQ, ↓vc_guard, ↓ev_tmp, ↓ev_const, ↓ev_func, ↓lk_cons, ↓putL_some, ↓putL_none, ↓List.headD_nil, ↓List.tail_nil, ↓List.headD_cons, ↓List.tail_cons, thn, enumL, ↓reduceIte, Nat.reduceLT, Nat.reduceLeDiff, Nat.reduceEqDiff, Nat.reduceAdd, Nat.reduceMul, Nat.reduceSub, Nat.zero_add, Nat.add_zero, Nat.mul_one, List.map_toArray, List.map_cons, List.map_nil, reduceCtorEq, Int.toNat_natCast, List.getElem?_toArray, List.getElem?_cons_zero, List.getElem?_cons_succ, Bool.not_true, Bool.not_false, bop_lss, bop_leq, bop_gtr, bop_geq, bop_eql, bop_neq, bop_add, bop_sub, bop_mul, bop_and, bop_or, bop_xor, bop_andNot, oc, List.cons_append, List.nil_append, vc_make, foff24_2, one3, cel_row r1]
  refine Ro_make rfl mki27 rfl rfl (by omega) (by omega) (by omega) (by omega) ?_
  simp only [Int.toNat_natCast]
  rw [show Array.replicate V (Value.int .i64 (Int.ofNat 0)) = RI .i64 (fun j => (wI y S 0 j : Int)) V from (RI_replicate _ _ _).trans (RI_congr fun j _ => by rw [wI_0]; rfl)]
  have k2 := Ch.push [] h1 (.cells (RI .i64 (fun j => (wI y S 0 j : Int)) V) 2 (0, 0))
  have r2 := rowOf_push h1 (RI .i64 (fun j => (wI y S 0 j : Int)) V) 2
  generalize h1.push (.cells (RI .i64 (fun j => (wI y S 0 j : Int)) V) 2 (0, 0)) = h2 at k2 r2 ⊢
  have q1 := row_lt r1
  have r12 := k2.row r1 (by simp)
  have k02 := k1.trans k2
  have q0 : h.size ≤ h1.size := k1.1
  have hqs : h.size ≠ h1.size := by omega
  have hall : ∀ z, rowOf (hset h2 h1.size (RI .i64 z V) 2) h1.size = some (RI .i64 z V, 2) := fun z => rowOf_hset_self r2
  have hr1 : ∀ z, rowOf (hset h2 h1.size (RI .i64 z V) 2) h.size = some (#[c0, .int .i64 S, .int .i64 V, c3], 24) := fun z => (rowOf_hset_ne _ _ (Ne.symm hqs)).trans r12
  have hkk : ∀ z, Ch [] h (hset h2 h1.size (RI .i64 z V) 2) := fun z => ((k02.sub (C := [h1.size]) (by simp)).trans (Ch.hset _ _ _ (by simp))).new (fun i hi => .inr (by simp at hi; omega))
  have hcc : ∀ z j, j < S → cel (hset h2 h1.size (RI .i64 z V) 2) ⟨bb, ob + j, none⟩ = some (.int .u8 (y j : Nat)) := fun z j hj => (hkk z).kp.cel_of (hcb j hj)
  (refine hK _ _ ?_; clear hK; try clear K)
  refine Wc_seq_k fun Ko hKo => ?_
  refine Wc_seq_k fun K hK => ?_
  refine Wc_plain [] rfl ?_
  simp only [true_and, vc_nil, ↓vc_move, ↓vc_assign, ↓vc_pick, ↓vc_nilCheck, ↓vc_bin, ↓vc_un, ↓vc_conv, ↓vc_extract, ↓vc_fieldAddr, ↓vc_len, ↓vc_cap, ↓vc_indexAddr, ↓vc_slice0, ↓vc_sliceH, ↓vc_sliceL, ↓vc_sliceB, ↓vc_load2, ↓vc_load1, ↓vc_store2, ↓vc_store1, ↓vc_call2, ↓vc_callW, ↓vc_callQ, ↓vc_guard, ↓ev_tmp, ↓ev_const, ↓ev_func, ↓lk_cons, ↓putL_some, ↓putL_none, ↓List.headD_nil, ↓List.tail_nil, ↓List.headD_cons, ↓List.tail_cons, thn, enumL, ↓reduceIte, Nat.reduceLT, Nat.reduceLeDiff, Nat.reduceEqDiff, Nat.reduceAdd, Nat.reduceMul, Nat.reduceSub, Nat.zero_add, Nat.add_zero, Nat.mul_one, List.map_toArray, List.map_cons, List.map_nil, reduceCtorEq, Int.toNat_natCast, List.getElem?_toArray, List.getElem?_cons_zero, List.getElem?_cons_succ, Bool.not_true, Bool.not_false, bop_lss, bop_leq, bop_gtr, bop_geq, bop_eql, bop_neq, bop_add, bop_sub, bop_mul, bop_and, bop_or, bop_xor, bop_andNot, oc, List.cons_append, List.nil_append, foff24_1, one3, cel_row r12]
  (refine hK _ _ ?_; clear hK; try clear K)
  refine Wc_block ?_
  refine Wc_rounds (α := Nat) (fun s => [(13, .int .i64 s), (12, .int .i64 S), (5, .slice (some ⟨h1.size, 0, none⟩) V V), (1, .slice (some ⟨bb, ob, none⟩) S cb), (2, .pointer (some ⟨h.size, 0, none⟩))])
    (fun s => hset h2 h1.size (RI .i64 (fun j => (wI y S s j : Int)) V) 2) (fun s => s ≤ S) (fun s => S - s) 0 ⟨rfl, rfl, rfl, rfl, rfl, trivial⟩ (hset_self r2).symm (Nat.zero_le _) ?_
  intro s D hs
  refine Wc_seq_k fun K hK => ?_
  refine Wc_plain [] rfl ?_
  simp only [true_and, vc_nil, ↓vc_move, ↓vc_assign, ↓vc_pick, ↓vc_nilCheck, ↓vc_bin, ↓vc_un, ↓vc_conv, ↓vc_extract, ↓vc_fieldAddr, ↓vc_len, ↓vc_cap, ↓vc_indexAddr, ↓vc_slice0, ↓vc_sliceH, ↓vc_sliceL, ↓vc_sliceB, ↓vc_load2, ↓vc_load1, ↓vc_store2, ↓vc_store1, ↓vc_call2, ↓vc_callW, ↓vc_callQ, ↓vc_guard, ↓ev_tmp, ↓ev_const, ↓ev_func, ↓lk_cons, ↓putL_some, ↓putL_none, ↓List.headD_nil, ↓List.tail_nil, ↓List.headD_cons, ↓List.tail_cons, thn, enumL, ↓reduceIte, Nat.reduceLT, Nat.reduceLeDiff, Nat.reduceEqDiff, Nat.reduceAdd, Nat.reduceMul, Nat.reduceSub, Nat.zero_add, Nat.add_zero, Nat.mul_one, List.map_toArray, List.map_cons, List.map_nil, reduceCtorEq, Int.toNat_natCast, List.getElem?_toArray, List.getElem?_cons_zero, List.getElem?_cons_succ, Bool.not_true, Bool.not_false, bop_lss, bop_leq, bop_gtr, bop_geq, bop_eql, bop_neq, bop_add, bop_sub, bop_mul, bop_and, bop_or, bop_xor, bop_andNot, oc, List.cons_append, List.nil_append]
  (refine hK _ _ ?_; clear hK; try clear K)
  refine Wc_seq_k fun K hK => ?_
  refine Wc_cond rfl (fun ht => ?_) (fun hf => ?_)
  · have hlt : s < S := by have := of_decide_eq_true ht; omega
    refine Wc_skip ?_
    (refine hK _ _ ?_; clear hK; try clear K)
    refine Wc_seq_k fun Kp hKp => ?_
    refine Wc_block ?_
    refine Wc_seq_k fun K hK => ?_
    refine Wc_plain [] rfl ?_
    simp only [true_and, vc_nil, ↓vc_move, ↓vc_assign, ↓vc_pick, ↓vc_nilCheck, ↓vc_bin, ↓vc_un, ↓vc_conv, ↓vc_extract, ↓vc_fieldAddr, ↓vc_len, ↓vc_cap, ↓vc_indexAddr, ↓vc_slice0, ↓vc_sliceH, ↓vc_sliceL, ↓vc_sliceB, ↓vc_load2, ↓vc_load1, ↓vc_store2, ↓vc_store1, ↓vc_call2, ↓vc_callW, ↓vc_callQ, ↓vc_guard, ↓ev_tmp, ↓ev_const, ↓ev_func, ↓lk_cons, ↓putL_some, ↓putL_none, ↓List.headD_nil, ↓List.tail_nil, ↓List.headD_cons, ↓List.tail_cons, thn, enumL, ↓reduceIte, Nat.reduceLT, Nat.reduceLeDiff, Nat.reduceEqDiff, Nat.reduceAdd, Nat.reduceMul, Nat.reduceSub, Nat.zero_add, Nat.add_zero, Nat.mul_one, List.map_toArray, List.map_cons, List.map_nil, reduceCtorEq, Int.toNat_natCast, List.getElem?_toArray, List.getElem?_cons_zero, List.getElem?_cons_succ, Bool.not_true, Bool.not_false, bop_lss, bop_leq, bop_gtr, bop_geq, bop_eql, bop_neq, bop_add, bop_sub, bop_mul, bop_and, bop_or, bop_xor, bop_andNot, oc, List.cons_append, List.nil_append]
    (refine hK _ _ ?_; clear hK; try clear K)
    obtain ⟨at_, hat⟩ : ∃ a, S - 1 - s = a := ⟨_, rfl⟩
    have wl : IntKind.i64.wrap ((S : Int) - 1) = (S : Int) - 1 := wrap_i64_id (by omega) (by omega)
    have wa : IntKind.i64.wrap ((S : Int) - 1 - s) = (at_ : Int) := by rw [wrap_i64_id (by omega) (by omega)]; omega
    have wq : IntKind.i64.wrap ((at_ : Int).tdiv 4) = ((at_ / 4 : Nat) : Int) := by rw [show (4 : Int) = ((4 : Nat) : Int) from rfl, tdiv_nat, wrap_i64_id (by omega) (by omega)]
    have wr : (at_ : Int).tmod 4 = ((at_ % 4 : Nat) : Int) := tmod_nat at_ 4
    have wm : IntKind.i64.wrap (8 * ((at_ % 4 : Nat) : Int)) = ((8 * (at_ % 4) : Nat) : Int) := by rw [wrap_i64_id (by omega) (by omega)]; omega
    have hy1 := hy s
    have hp4 : 256 ^ (at_ % 4) ≤ 16777216 := by
      have : at_ % 4 = 0 ∨ at_ % 4 = 1 ∨ at_ % 4 = 2 ∨ at_ % 4 = 3 := by omega
      rcases this with h | h | h | h <;> rw [h] <;> decide
    have hyp : y s * 256 ^ (at_ % 4) ≤ 255 * 16777216 := Nat.mul_le_mul (by omega) hp4
    have wy : IntKind.i64.wrap ((y s : Nat) : Int) = ((y s : Nat) : Int) := wrap_i64_id (by omega) (by omega)
    have wsh : sh .shl (.int .i64 ((y s : Nat) : Int)) (.int .i64 ((8 * (at_ % 4) : Nat) : Int)) = some (.int .i64 ((y s * 256 ^ (at_ % 4) : Nat) : Int)) := by
      have e : min (8 * (at_ % 4)) IntKind.i64.bits = 8 * (at_ % 4) := Nat.min_eq_left (show 8 * (at_ % 4) ≤ 64 by omega)
      have e2 : ((y s : Nat) : Int) * 2 ^ (8 * (at_ % 4)) = ((y s * 256 ^ (at_ % 4) : Nat) : Int) := by
        rw [show (256 : Nat) ^ (at_ % 4) = 2 ^ (8 * (at_ % 4)) by rw [Nat.pow_mul]]
        simp
      rw [sh_shl (by omega), Int.toNat_natCast, e, e2, wrap_i64_id (by omega) (by omega)]
    have w1 : IntKind.i64.wrap ((s : Int) + 1) = (s : Int) + 1 := wrap_i64_id (by omega) (by omega)
    have hst := wI_step (y := y) hat hlt
    have hwI := wI_lt hy S s (at_ / 4)
    have wad : IntKind.i64.wrap ((wI y S s (at_ / 4) : Int) + ((y s * 256 ^ (at_ % 4) : Nat) : Int)) = ((wI y S s (at_ / 4) + y s * 256 ^ (at_ % 4) : Nat) : Int) := by
      rw [wrap_i64_id (by omega) (by omega)]; omega
    refine Wc_seq_k fun K hK => ?_
    refine Wc_plain [] rfl ?_
    simp only [true_and, vc_nil, ↓vc_move, ↓vc_assign, ↓vc_pick, ↓vc_nilCheck, ↓vc_bin, ↓vc_un, ↓vc_conv, ↓vc_extract, ↓vc_fieldAddr, ↓vc_len, ↓vc_cap, ↓vc_indexAddr, ↓vc_slice0, ↓vc_sliceH, ↓vc_sliceL, ↓vc_sliceB, ↓vc_load2, ↓vc_load1, ↓vc_store2, ↓vc_store1, ↓vc_call2, ↓vc_callW, ↓vc_callQ, ↓vc_guard, ↓ev_tmp, ↓ev_const, ↓ev_func, ↓lk_cons, ↓putL_some, ↓putL_none, ↓List.headD_nil, ↓List.tail_nil, ↓List.headD_cons, ↓List.tail_cons, thn, enumL, ↓reduceIte, Nat.reduceLT, Nat.reduceLeDiff, Nat.reduceEqDiff, Nat.reduceAdd, Nat.reduceMul, Nat.reduceSub, Nat.zero_add, Nat.add_zero, Nat.mul_one, List.map_toArray, List.map_cons, List.map_nil, reduceCtorEq, Int.toNat_natCast, List.getElem?_toArray, List.getElem?_cons_zero, List.getElem?_cons_succ, Bool.not_true, Bool.not_false, bop_lss, bop_leq, bop_gtr, bop_geq, bop_eql, bop_neq, bop_add, bop_sub, bop_mul, bop_and, bop_or, bop_xor, bop_andNot, oc, List.cons_append, List.nil_append, foff24_1, one3, cel_row (hr1 _), wl, wa]
    (refine hK _ _ ?_; clear hK; try clear K)
    refine Wc_draw [] [0, 0, 0, 0, 1, 0, 0, 0, 1, 0, 0, 0, 0, 0, 0, 0, 2] rfl mixed (by kernel_rfl) ?_
    simp only [true_and, vc_nil, ↓vc_move, ↓vc_assign, ↓vc_pick, ↓vc_nilCheck, ↓vc_bin, ↓vc_un, ↓vc_conv, ↓vc_extract, ↓vc_fieldAddr, ↓vc_len, ↓vc_cap, ↓vc_indexAddr, ↓vc_slice0, ↓vc_sliceH, ↓vc_sliceL, ↓vc_sliceB, ↓vc_load2, ↓vc_load1, ↓vc_store2, ↓vc_store1, ↓vc_call2, ↓vc_callW, ↓vc_callQ, ↓vc_guard, ↓ev_tmp, ↓ev_const, ↓ev_func, ↓lk_cons, ↓putL_some, ↓putL_none, ↓List.headD_nil, ↓List.tail_nil, ↓List.headD_cons, ↓List.tail_cons, thn, enumL, ↓reduceIte, Nat.reduceLT, Nat.reduceLeDiff, Nat.reduceEqDiff, Nat.reduceAdd, Nat.reduceMul, Nat.reduceSub, Nat.zero_add, Nat.add_zero, Nat.mul_one, List.map_toArray, List.map_cons, List.map_nil, reduceCtorEq, Int.toNat_natCast, List.getElem?_toArray, List.getElem?_cons_zero, List.getElem?_cons_succ, Bool.not_true, Bool.not_false, bop_lss, bop_leq, bop_gtr, bop_geq, bop_eql, bop_neq, bop_add, bop_sub, bop_mul, bop_and, bop_or, bop_xor, bop_andNot, oc, List.cons_append, List.nil_append, bop_quo _ (show (4 : Int) ≠ 0 by decide), wq, bop_rem _ (show (4 : Int) ≠ 0 by decide), wr, wm, esz27, one2, cel_row (hall _), RI_get (show at_ / 4 < V by omega), esz30, one5, hcc _ s hlt, ikd5_2, wy, wsh, wad, sz2, hall, RI_size, inB]
    refine ⟨⟨by omega, by omega⟩, ⟨by omega, by omega⟩, ⟨by omega, by omega⟩, by omega, ?_⟩
    have ew : RI .i64 (fun j => if j = at_ / 4 then ((wI y S s (at_ / 4) + y s * 256 ^ (at_ % 4) : Nat) : Int) else (wI y S s j : Int)) V = RI .i64 (fun j => (wI y S (s + 1) j : Int)) V := RI_congr fun j _ => by
      rw [hst]
      by_cases h1 : j = at_ / 4
      · rw [if_pos h1, if_pos h1, h1]
      · rw [if_neg h1, if_neg h1]
    rw [RI_set, ew, hset_hset]
    (refine hKp _ _ ?_; clear hKp; try clear Kp)
    refine Wc_plain [] rfl ?_
    simp only [true_and, vc_nil, ↓vc_move, ↓vc_assign, ↓vc_pick, ↓vc_nilCheck, ↓vc_bin, ↓vc_un, ↓vc_conv, ↓vc_extract, ↓vc_fieldAddr, ↓vc_len, ↓vc_cap, ↓vc_indexAddr, ↓vc_slice0, ↓vc_sliceH, ↓vc_sliceL, ↓vc_sliceB, ↓vc_load2, ↓vc_load1, ↓vc_store2, ↓vc_store1, ↓vc_call2, ↓vc_callW, ↓vc_callQ, ↓vc_guard, ↓ev_tmp, ↓ev_const, ↓ev_func, ↓lk_cons, ↓putL_some, ↓putL_none, ↓List.headD_nil, ↓List.tail_nil, ↓List.headD_cons, ↓List.tail_cons, thn, enumL, ↓reduceIte, Nat.reduceLT, Nat.reduceLeDiff, Nat.reduceEqDiff, Nat.reduceAdd, Nat.reduceMul, Nat.reduceSub, Nat.zero_add, Nat.add_zero, Nat.mul_one, List.map_toArray, List.map_cons, List.map_nil, reduceCtorEq, Int.toNat_natCast, List.getElem?_toArray, List.getElem?_cons_zero, List.getElem?_cons_succ, Bool.not_true, Bool.not_false, bop_lss, bop_leq, bop_gtr, bop_geq, bop_eql, bop_neq, bop_add, bop_sub, bop_mul, bop_and, bop_or, bop_xor, bop_andNot, oc, List.cons_append, List.nil_append, w1]
    exact ⟨s + 1, by omega, by omega, by simp only [chk, ↓lk_cons, ↓reduceIte, Nat.reduceEqDiff, List.cons_append, List.nil_append, cast_succ, and_self], rfl⟩
  · have hsS : s = S := by have := of_decide_eq_false hf; omega
    subst hsS
    refine Wc_exit ?_
    simp only [thn, inB, ↓reduceIte]
    (refine hKo _ _ ?_; clear hKo; try clear Ko)
    refine Wc_seq_k fun K hK => ?_
    refine Wc_plain [] rfl ?_
    simp only [true_and, vc_nil, ↓vc_move, ↓vc_assign, ↓vc_pick, ↓vc_nilCheck, ↓vc_bin, ↓vc_un, ↓vc_conv, ↓vc_extract, ↓vc_fieldAddr, ↓vc_len, ↓vc_cap, ↓vc_indexAddr, ↓vc_slice0, ↓vc_sliceH, ↓vc_sliceL, ↓vc_sliceB, ↓vc_load2, ↓vc_load1, ↓vc_store2, ↓vc_store1, ↓vc_call2, ↓vc_callW, ↓vc_callQ, ↓vc_guard, ↓ev_tmp, ↓ev_const, ↓ev_func, ↓lk_cons, ↓putL_some, ↓putL_none, ↓List.headD_nil, ↓List.tail_nil, ↓List.headD_cons, ↓List.tail_cons, thn, enumL, ↓reduceIte, Nat.reduceLT, Nat.reduceLeDiff, Nat.reduceEqDiff, Nat.reduceAdd, Nat.reduceMul, Nat.reduceSub, Nat.zero_add, Nat.add_zero, Nat.mul_one, List.map_toArray, List.map_cons, List.map_nil, reduceCtorEq, Int.toNat_natCast, List.getElem?_toArray, List.getElem?_cons_zero, List.getElem?_cons_succ, Bool.not_true, Bool.not_false, bop_lss, bop_leq, bop_gtr, bop_geq, bop_eql, bop_neq, bop_add, bop_sub, bop_mul, bop_and, bop_or, bop_xor, bop_andNot, oc, List.cons_append, List.nil_append]
    (refine hK _ _ ?_; clear hK; try clear K)
    refine Wc_ret ?_
    simp only [true_and, fin, resV, ↓ev_tmp, ↓lk_cons, ↓reduceIte, Nat.reduceLT, Nat.reduceEqDiff, List.cons_append, List.nil_append, res30]
    refine ⟨h1.size, rfl, ?_, hkk _, by omega⟩
    rw [hall]
    exact congrArg (fun a => some (a, 2)) (RI_congr fun j _ => by rw [wI_S])
end Go.Proofs.Ytfakfllmbfjofaa
