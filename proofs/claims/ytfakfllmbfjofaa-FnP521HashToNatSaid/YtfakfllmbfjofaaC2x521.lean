/- ecdsa: precomputeParams (P-521). -/
import Derived.Test.YtfakfllmbfjofaaW22
import Derived.Test.YtfakfllmbfjofaaC1x521
open Go Go.Fl
namespace Go.Proofs.Ytfakfllmbfjofaa
set_option linter.unusedSimpArgs false
set_option linter.unusedVariables false
set_option maxRecDepth 100000

/-- the order's limbs -/
def ordW521 : Nat → Nat := BN.lw (zb ordB521 66)
/-- the bytes of the order less 2 -/
def ord2521 (j : Nat) : Nat := if j = 66 - 1 then ordB521 j - 2 else ordB521 j

theorem ordB_lt521 : ∀ j, ordB521 j < 256 := by
  intro j
  rcases Nat.lt_or_ge j 66 with h | h
  · have : ∀ i : Fin 66, ordB521 i.val < 256 := by decide +kernel
    exact this ⟨j, h⟩
  · have : ordB521 j = 0 := by
      unfold ordB521
      rw [List.getD_eq_getElem?_getD, List.getElem?_eq_none (by exact h)]
      rfl
    omega

theorem ord_facts521 : trimN ordW521 9 = 9 ∧ zeroB ordW521 9 = 0 ∧ oneB ordW521 9 = 0 ∧ ordW521 0 % 2 = 1 ∧ bitsL ordW521 9 = 521 ∧ BN.val ordW521 9 = 6864797660130609714981900799081393217269435300143305409394463459185543183397655394245057746333217197532963996371363321113864768612440380340372808892707005449 ∧
    BN.val (fun j => if j = 9 - 1 then 2 ^ ((521 - 1) % 64) else 0) 9 = 2 ^ (521 - 1) % 6864797660130609714981900799081393217269435300143305409394463459185543183397655394245057746333217197532963996371363321113864768612440380340372808892707005449 := by
  decide +kernel

theorem ordW_lt521 (j : Nat) : ordW521 j < 18446744073709551616 := BN.lw_lt (fun t => ite_lt (ordB_lt521 _) (by decide)) j

theorem two_facts521 : BN.borrow (BN.lw (zb (fun _ => 2) 1)) ordW521 0 9 = 1 ∧
    (∀ i : Fin 66, byteN (subL (fun _ => 0) (fun j => if j < 9 then BN.lw (zb (fun _ => 2) 1) j else 0) ordW521 9) (66 - 1 - i.val) = ord2521 i.val) ∧
    BN.val (subL (fun _ => 0) (fun j => if j < 9 then BN.lw (zb (fun _ => 2) 1) j else 0) ordW521 9) 9 < 256 ^ 66 := by
  decide +kernel

theorem pre_inv521 (w0 : World) {h : Hp} {bc bo : Nat} {s f g : Value} (hc : rowOf h bc = some (#[s, f, g, .pointer none, .slice none 0 0], 89)) (ho : rowOf h bo = some (RI .u8 (fun j => (ordB521 j : Int)) 66, 5)) :
    Inv Try.prog w0 65 #[.pointer (some ⟨bc, 0, none⟩), .slice (some ⟨bo, 0, none⟩) 66 66] h fun v h' =>
      v = .tuple #[] ∧ Ch [bc] h h' ∧ ∃ bm bn ln br lr b2 rr, CA 89 66 9 ordW521 ord2521 h' bc bm bn ln br lr b2 rr s f g := by
  have qc := row_lt hc
  have qo := row_lt ho
  obtain ⟨f1, f2, f3, f4, f5, f6, f7⟩ := ord_facts521
  have f5' : bitsL (BN.lw (zb ordB521 66)) 9 = 521 := f5
  obtain ⟨t1, t2, t3⟩ := two_facts521
  refine Inv_of_Wc (args := [_, _]) Try.func65 rfl Try.ntmps65 (Nat.le_of_ble_eq_true rfl) hb65 ?_
  refine Wc_seq_k fun K hK => ?_
  refine Wc_plain [] rfl ?_
  simp only [true_and, vc_nil, ↓vc_move, ↓vc_assign, ↓vc_pick, ↓vc_nilCheck, ↓vc_bin, ↓vc_un, ↓vc_conv, ↓vc_extract, ↓vc_fieldAddr, ↓vc_len, ↓vc_cap, ↓vc_indexAddr, ↓vc_slice0, ↓vc_sliceH, ↓vc_sliceL, ↓vc_sliceB, ↓vc_load2, ↓vc_load1, ↓vc_store2, ↓vc_store1, ↓vc_call2, ↓vc_callW, ↓vc_callQ, ↓vc_guard, ↓ev_tmp, ↓ev_const, ↓ev_func, ↓lk_cons, ↓putL_some, ↓putL_none, ↓List.headD_nil, ↓List.tail_nil, ↓List.headD_cons, ↓List.tail_cons, thn, enumL, ↓reduceIte, Nat.reduceLT, Nat.reduceLeDiff, Nat.reduceEqDiff, Nat.reduceAdd, Nat.reduceMul, Nat.reduceSub, Nat.zero_add, Nat.add_zero, Nat.mul_one, List.map_toArray, List.map_cons, List.map_nil, reduceCtorEq, Int.toNat_natCast, List.getElem?_toArray, List.getElem?_cons_zero, List.getElem?_cons_succ, Bool.not_true, Bool.not_false, bop_lss, bop_leq, bop_gtr, bop_geq, bop_eql, bop_neq, bop_add, bop_sub, bop_mul, bop_and, bop_or, bop_xor, bop_andNot, oc, List.cons_append, List.nil_append]
  (refine hK _ _ ?_; clear hK; try clear K)
  refine Wc_seq_k fun K hK => ?_
  refine Wc_plain [] rfl ?_
  simp only [true_and, vc_nil, ↓vc_move, ↓vc_assign, ↓vc_pick, ↓vc_nilCheck, ↓vc_bin, ↓vc_un, ↓vc_conv, ↓vc_extract, ↓vc_fieldAddr, ↓vc_len, ↓vc_cap, ↓vc_indexAddr, ↓vc_slice0, ↓vc_sliceH, ↓vc_sliceL, ↓vc_sliceB, ↓vc_load2, ↓vc_load1, ↓vc_store2, ↓vc_store1, ↓vc_call2S, ↓vc_callWS, ↓vc_callQS, ↓vc_guard, ↓ev_tmp, ↓ev_const, ↓ev_func, ↓lk_cons, ↓putL_some, ↓putL_none, ↓List.headD_nil, ↓List.tail_nil, ↓List.headD_cons, ↓List.tail_cons, thn, enumL, ↓reduceIte, Nat.reduceLT, Nat.reduceLeDiff, Nat.reduceEqDiff, Nat.reduceAdd, Nat.reduceMul, Nat.reduceSub, Nat.zero_add, Nat.add_zero, Nat.mul_one, List.map_toArray, List.map_cons, List.map_nil, reduceCtorEq, Int.toNat_natCast, List.getElem?_toArray, List.getElem?_cons_zero, List.getElem?_cons_succ, Bool.not_true, Bool.not_false, bop_lss, bop_leq, bop_gtr, bop_geq, bop_eql, bop_neq, bop_add, bop_sub, bop_mul, bop_and, bop_or, bop_xor, bop_andNot, oc, List.cons_append, List.nil_append]
  refine (NewModulus_inv w0 (n := 9) (by decide) (Nat.le_refl _) qo (fun j hj => by rw [cel_row ho, Nat.zero_add, RI_get hj]) ordB_lt521 rfl f1 (by decide) (by decide) f2 f3 f4 (by rw [f5']; decide) (by rw [f5']; decide)
    (Pow2 ordW521 9) (by rw [f5']; exact ⟨by rw [f6]; exact f7⟩) (fun e x hx hq => hq.dbl hx ordW_lt521 (by rw [f6]; decide))
    (fun e x r hx he hq => hq.sq hx ordW_lt521 (by decide) (by rw [f6]) (BN.negInv_spec _ f4) he)).mono ?_
  rintro v h1 ⟨bm, bn, ln, br, lr, r, rfl, k1, em, er, qr, g1, g2, g3, g4, g5⟩
  refine vcS_intro ?_
  have hc1 := k1.row hc (by simp)
  simp only [true_and, vc_nil, ↓vc_move, ↓vc_assign, ↓vc_pick, ↓vc_nilCheck, ↓vc_bin, ↓vc_un, ↓vc_conv, ↓vc_extract, ↓vc_fieldAddr, ↓vc_len, ↓vc_cap, ↓vc_indexAddr, ↓vc_slice0, ↓vc_sliceH, ↓vc_sliceL, ↓vc_sliceB, ↓vc_load2, ↓vc_load1, ↓vc_store2, ↓vc_store1, ↓vc_call2S, ↓vc_callWS, ↓vc_callQS, ↓vc_guard, ↓ev_tmp, ↓ev_const, ↓ev_func, ↓lk_cons, ↓putL_some, ↓putL_none, ↓List.headD_nil, ↓List.tail_nil, ↓List.headD_cons, ↓List.tail_cons, thn, enumL, ↓reduceIte, Nat.reduceLT, Nat.reduceLeDiff, Nat.reduceEqDiff, Nat.reduceAdd, Nat.reduceMul, Nat.reduceSub, Nat.zero_add, Nat.add_zero, Nat.mul_one, List.map_toArray, List.map_cons, List.map_nil, reduceCtorEq, Int.toNat_natCast, List.getElem?_toArray, List.getElem?_cons_zero, List.getElem?_cons_succ, Bool.not_true, Bool.not_false, bop_lss, bop_leq, bop_gtr, bop_geq, bop_eql, bop_neq, bop_add, bop_sub, bop_mul, bop_and, bop_or, bop_xor, bop_andNot, oc, List.cons_append, List.nil_append, foff89_3, sz77, hc1]
  refine ⟨by simp, ?_⟩
  rw [set5_3]
  have hc2 := rowOf_hset_self (c := #[s, f, g, .pointer (some ⟨bm, 0, none⟩), .slice none 0 0]) (T := 89) hc1
  have k2 := Ch.put (b := bc) (k1.sub (C := [bc]) (by simp)) #[s, f, g, .pointer (some ⟨bm, 0, none⟩), .slice none 0 0] 89 (by simp)
  have em2 : MA (hset h1 bc #[s, f, g, .pointer (some ⟨bm, 0, none⟩), .slice none 0 0] 89) bm bn ln 9 ordW521 (.bool true) (.int .u64 (BN.negInv (ordW521 0))) (.pointer (some ⟨br, 0, none⟩)) :=
    ⟨(rowOf_hset_ne _ _ (by omega)).trans em.hm, NA.row1 em.hn (by omega) (by omega)⟩
  have er2 := NA.row1 er (m := bc) (c := #[s, f, g, .pointer (some ⟨bm, 0, none⟩), .slice none 0 0]) (T := 89) (by omega) (by omega)
  generalize hset h1 bc #[s, f, g, .pointer (some ⟨bm, 0, none⟩), .slice none 0 0] 89 = h2 at hc2 k2 em2 er2 ⊢
  clear em er
  have qm1 := row_lt em2.hm
  have qm2 := em2.hn.lt1
  have qm3 := em2.hn.lt2
  have qr1 := er2.lt1
  have qr2 := er2.lt2
  have qc2 := row_lt hc2
  (refine hK _ _ ?_; clear hK; try clear K)
  refine Wc_seq_k fun Ko hKo => ?_
  refine Wc_seq_k fun K hK => ?_
  refine Wc_plain [] rfl ?_
  simp only [true_and, vc_nil, ↓vc_move, ↓vc_assign, ↓vc_pick, ↓vc_nilCheck, ↓vc_bin, ↓vc_un, ↓vc_conv, ↓vc_extract, ↓vc_fieldAddr, ↓vc_len, ↓vc_cap, ↓vc_indexAddr, ↓vc_slice0, ↓vc_sliceH, ↓vc_sliceL, ↓vc_sliceB, ↓vc_load2, ↓vc_load1, ↓vc_store2, ↓vc_store1, ↓vc_call2, ↓vc_callW, ↓vc_callQ, ↓vc_guard, ↓ev_tmp, ↓ev_const, ↓ev_func, ↓lk_cons, ↓putL_some, ↓putL_none, ↓List.headD_nil, ↓List.tail_nil, ↓List.headD_cons, ↓List.tail_cons, thn, enumL, ↓reduceIte, Nat.reduceLT, Nat.reduceLeDiff, Nat.reduceEqDiff, Nat.reduceAdd, Nat.reduceMul, Nat.reduceSub, Nat.zero_add, Nat.add_zero, Nat.mul_one, List.map_toArray, List.map_cons, List.map_nil, reduceCtorEq, Int.toNat_natCast, List.getElem?_toArray, List.getElem?_cons_zero, List.getElem?_cons_succ, Bool.not_true, Bool.not_false, bop_lss, bop_leq, bop_gtr, bop_geq, bop_eql, bop_neq, bop_add, bop_sub, bop_mul, bop_and, bop_or, bop_xor, bop_andNot, oc, List.cons_append, List.nil_append, bop_if, vf_bin]
  refine Ro_neqnil rfl rfl rfl ifc68 ?_
  (refine hK _ _ ?_; clear hK; try clear K)
  refine Wc_cond (t := false) rfl (fun ht => by cases ht) (fun _ => ?_)
  refine Wc_skip ?_
  (refine hKo _ _ ?_; clear hKo; try clear Ko)
  have bld2 : ∀ w : World, (Instr.buildSlice 30 1 #[(0, .int .u8 2)]).run Try.prog w = .ok (.slice (some ⟨w.heap.size, 0, none⟩) 1 1) (w.alloc (.cells #[.int .u8 2] 5 (0, 0))) := fun w => by kernel_rfl
  have sb : ∀ (hX : Hp) (b l bb : Nat), Ch [] h2 hX → NA hX b l 0 (fun _ => 0) → rowOf hX bb = some (#[.int .u8 2], 5) → h2.size ≤ b → h2.size ≤ l → bb ≠ l → bb ≠ b →
      Inv Try.prog w0 73 #[.pointer (some ⟨b, 0, none⟩), .slice (some ⟨bb, 0, none⟩) 1 1, .pointer (some ⟨bm, 0, none⟩)] hX fun v h' =>
        v = .tuple #[.pointer (some ⟨b, 0, none⟩), .nilIface] ∧ NA h' b l 9 (fun j => if j < 9 then BN.lw (zb (fun _ => 2) 1) j else 0) ∧ Ch [] h2 h' := by
    intro hX b l bb kX eX rX g1 g2 g3 g4
    refine (SetBytes_inv w0 eX (em2.ch kX (by simp) (by simp) (by simp)) (y := fun _ => 2) (by decide) (Nat.le_refl _) g3 g4 (fun j hj => ?_) (fun _ => by decide) (by omega) (by omega) (by omega) (by omega) (by omega) (by omega) t1).mono ?_
    · obtain rfl : j = 0 := by omega
      rw [cel_row rX]; rfl
    · rintro v h' ⟨rfl, e', k'⟩
      exact ⟨rfl, e', ((kX.sub (C := [b, l]) (by simp)).trans k').new (fun i hi => .inr (by simp at hi; omega))⟩
  have kc : ∀ hX, Ch [] h2 hX → keep1 (bc, some 3) h2 hX := fun hX k => k.keep1 qc2 (by simp)
  refine Wc_seq_k fun Kq hKq => ?_
  have fin4 : ∀ (L : FL) (h3 : Hp) (b l : Nat), lk L 0 = .pointer (some ⟨bc, 0, none⟩) → lk L 5 = .pointer (some ⟨b, 0, none⟩) → NA h3 b l 9 (fun j => if j < 9 then BN.lw (zb (fun _ => 2) 1) j else 0) → Ch [] h2 h3 → h2.size ≤ b → h2.size ≤ l → Kq L h3 := by
    intro L h3 b l l0 l5 e3 k3 g6 g7
    (refine hKq _ _ ?_; clear hKq; try clear Kq)
    have hc3 := k3.row hc2 (by simp)
    have em3 := em2.ch k3 (by simp) (by simp) (by simp)
    have er3 := er2.ch k3 (by simp) (by simp)
    have qle := k3.1
    have qc3 := row_lt hc3
    have qb := e3.lt1
    have ql := e3.lt2
    refine Wc_plan [] [(bc, some 3)] [0, 4, 0, 0, 0, 3, 4, 0, 0, 0, 0, 3, 4, 0, 0, 0, 3, 4, 0, 0, 4] (Plan.one 0 (Plan.one 1 (Plan.one 2 (Plan.one 3 (Plan.one 4 (Plan.one 5 (Plan.one 6 (Plan.one 7 (Plan.one 8 (Plan.one 9 (Plan.one 10 (Plan.one 11 (Plan.one 12 (Plan.one 13 (Plan.one 14 (Plan.one 15 (Plan.one 16 (Plan.one 17 (Plan.one 18 (Plan.one 19 (Plan.one 20 Plan.nil))))))))))))))))))))) rfl mixed rfl (by decide) (by kernel_rfl) ?_
    simp only [true_and, vc_nil, ↓vc_move, ↓vc_assign, ↓vc_pick, ↓vc_nilCheck, ↓vc_bin, ↓vc_un, ↓vc_conv, ↓vc_extract, ↓vc_fieldAddr, ↓vc_len, ↓vc_cap, ↓vc_indexAddr, ↓vc_slice0, ↓vc_sliceH, ↓vc_sliceL, ↓vc_sliceB, ↓vc_load2, ↓vc_load1, ↓vc_store2, ↓vc_store1, ↓vc_call2S, ↓vc_callWS, ↓vc_callQS, ↓vc_guard, ↓ev_tmp, ↓ev_const, ↓ev_func, ↓lk_cons, ↓putL_some, ↓putL_none, ↓List.headD_nil, ↓List.tail_nil, ↓List.headD_cons, ↓List.tail_cons, thn, enumL, ↓reduceIte, Nat.reduceLT, Nat.reduceLeDiff, Nat.reduceEqDiff, Nat.reduceAdd, Nat.reduceMul, Nat.reduceSub, Nat.zero_add, Nat.add_zero, Nat.mul_one, List.map_toArray, List.map_cons, List.map_nil, reduceCtorEq, Int.toNat_natCast, List.getElem?_toArray, List.getElem?_cons_zero, List.getElem?_cons_succ, Bool.not_true, Bool.not_false, bop_lss, bop_leq, bop_gtr, bop_geq, bop_eql, bop_neq, bop_add, bop_sub, bop_mul, bop_and, bop_or, bop_xor, bop_andNot, oc, List.cons_append, List.nil_append, ↓vc_load3, ↓vc_store4, ↓vc_call4S, ↓vc_buildSlice4, ↓vc_load5, ↓vcP_nil, ↓vcP_one, ↓vcP_two, List.getD_cons_zero, List.getD_cons_succ, List.getD_nil, l0]
    refine (NewNat_inv w0 h3).mono ?_
    rintro v h4 ⟨rfl, e4, k4⟩
    have hc4 := k4.row hc3 (by simp)
    refine ⟨keeps1 (k4.keep1 qc3 (by simp)), vcS_intro ?_⟩
    simp only [true_and, vc_nil, ↓vc_move, ↓vc_assign, ↓vc_pick, ↓vc_nilCheck, ↓vc_bin, ↓vc_un, ↓vc_conv, ↓vc_extract, ↓vc_fieldAddr, ↓vc_len, ↓vc_cap, ↓vc_indexAddr, ↓vc_slice0, ↓vc_sliceH, ↓vc_sliceL, ↓vc_sliceB, ↓vc_load2, ↓vc_load1, ↓vc_store2, ↓vc_store1, ↓vc_call2S, ↓vc_callWS, ↓vc_callQS, ↓vc_guard, ↓ev_tmp, ↓ev_const, ↓ev_func, ↓lk_cons, ↓putL_some, ↓putL_none, ↓List.headD_nil, ↓List.tail_nil, ↓List.headD_cons, ↓List.tail_cons, thn, enumL, ↓reduceIte, Nat.reduceLT, Nat.reduceLeDiff, Nat.reduceEqDiff, Nat.reduceAdd, Nat.reduceMul, Nat.reduceSub, Nat.zero_add, Nat.add_zero, Nat.mul_one, List.map_toArray, List.map_cons, List.map_nil, reduceCtorEq, Int.toNat_natCast, List.getElem?_toArray, List.getElem?_cons_zero, List.getElem?_cons_succ, Bool.not_true, Bool.not_false, bop_lss, bop_leq, bop_gtr, bop_geq, bop_eql, bop_neq, bop_add, bop_sub, bop_mul, bop_and, bop_or, bop_xor, bop_andNot, oc, List.cons_append, List.nil_append, ↓vc_load3, ↓vc_store4, ↓vc_call4S, ↓vc_buildSlice4, ↓vc_load5, ↓vcP_nil, ↓vcP_one, ↓vcP_two, List.getD_cons_zero, List.getD_cons_succ, List.getD_nil, l0, foff89_3, one77, cel_row hc4]
    refine ⟨.inr (by simp), ?_⟩
    refine (ExpandFor_inv w0 e4 (em3.ch k4 (by simp) (by simp) (by simp)) (Nat.zero_le _)).mono ?_
    rintro v h5 ⟨rfl, e5, k5⟩
    have e5' : NA h5 (h3.size + 1) h3.size 9 (fun _ => 0) := e5.xeq (fun j _ => by split <;> rfl) (fun _ => by decide)
    have k35 : Ch [] h3 h5 := ((k4.sub (by simp)).trans k5).new (fun i hi => .inr (by simp at hi; omega))
    have hc5 := k35.row hc3 (by simp)
    refine ⟨keeps1 ((k4.keep1 qc3 (by simp)).symm.trans (k35.keep1 qc3 (by simp))), vcS_intro ?_⟩
    simp only [true_and, vc_nil, ↓vc_move, ↓vc_assign, ↓vc_pick, ↓vc_nilCheck, ↓vc_bin, ↓vc_un, ↓vc_conv, ↓vc_extract, ↓vc_fieldAddr, ↓vc_len, ↓vc_cap, ↓vc_indexAddr, ↓vc_slice0, ↓vc_sliceH, ↓vc_sliceL, ↓vc_sliceB, ↓vc_load2, ↓vc_load1, ↓vc_store2, ↓vc_store1, ↓vc_call2S, ↓vc_callWS, ↓vc_callQS, ↓vc_guard, ↓ev_tmp, ↓ev_const, ↓ev_func, ↓lk_cons, ↓putL_some, ↓putL_none, ↓List.headD_nil, ↓List.tail_nil, ↓List.headD_cons, ↓List.tail_cons, thn, enumL, ↓reduceIte, Nat.reduceLT, Nat.reduceLeDiff, Nat.reduceEqDiff, Nat.reduceAdd, Nat.reduceMul, Nat.reduceSub, Nat.zero_add, Nat.add_zero, Nat.mul_one, List.map_toArray, List.map_cons, List.map_nil, reduceCtorEq, Int.toNat_natCast, List.getElem?_toArray, List.getElem?_cons_zero, List.getElem?_cons_succ, Bool.not_true, Bool.not_false, bop_lss, bop_leq, bop_gtr, bop_geq, bop_eql, bop_neq, bop_add, bop_sub, bop_mul, bop_and, bop_or, bop_xor, bop_andNot, oc, List.cons_append, List.nil_append, ↓vc_load3, ↓vc_store4, ↓vc_call4S, ↓vc_buildSlice4, ↓vc_load5, ↓vcP_nil, ↓vcP_one, ↓vcP_two, List.getD_cons_zero, List.getD_cons_succ, List.getD_nil, l0, l5, foff89_3, one77, cel_row hc5]
    refine ⟨.inr (by simp), ?_⟩
    refine (Sub_inv w0 e5' (e3.ch k35 (by simp) (by simp)) (em3.ch k35 (by simp) (by simp) (by simp)) (by omega) (by omega) (by omega)).mono ?_
    rintro v h6 ⟨rfl, e6, k6⟩
    have k36 : Ch [] h3 h6 := ((k35.sub (by simp)).trans k6).new (fun i hi => .inr (by simp at hi; omega))
    have hc6 := k36.row hc3 (by simp)
    have em6 := em3.ch k36 (by simp) (by simp) (by simp)
    refine ⟨keeps1 ((k35.keep1 qc3 (by simp)).symm.trans (k36.keep1 qc3 (by simp))), vcS_intro ?_⟩
    simp only [true_and, vc_nil, ↓vc_move, ↓vc_assign, ↓vc_pick, ↓vc_nilCheck, ↓vc_bin, ↓vc_un, ↓vc_conv, ↓vc_extract, ↓vc_fieldAddr, ↓vc_len, ↓vc_cap, ↓vc_indexAddr, ↓vc_slice0, ↓vc_sliceH, ↓vc_sliceL, ↓vc_sliceB, ↓vc_load2, ↓vc_load1, ↓vc_store2, ↓vc_store1, ↓vc_call2S, ↓vc_callWS, ↓vc_callQS, ↓vc_guard, ↓ev_tmp, ↓ev_const, ↓ev_func, ↓lk_cons, ↓putL_some, ↓putL_none, ↓List.headD_nil, ↓List.tail_nil, ↓List.headD_cons, ↓List.tail_cons, thn, enumL, ↓reduceIte, Nat.reduceLT, Nat.reduceLeDiff, Nat.reduceEqDiff, Nat.reduceAdd, Nat.reduceMul, Nat.reduceSub, Nat.zero_add, Nat.add_zero, Nat.mul_one, List.map_toArray, List.map_cons, List.map_nil, reduceCtorEq, Int.toNat_natCast, List.getElem?_toArray, List.getElem?_cons_zero, List.getElem?_cons_succ, Bool.not_true, Bool.not_false, bop_lss, bop_leq, bop_gtr, bop_geq, bop_eql, bop_neq, bop_add, bop_sub, bop_mul, bop_and, bop_or, bop_xor, bop_andNot, oc, List.cons_append, List.nil_append, ↓vc_load3, ↓vc_store4, ↓vc_call4S, ↓vc_buildSlice4, ↓vc_load5, ↓vcP_nil, ↓vcP_one, ↓vcP_two, List.getD_cons_zero, List.getD_cons_succ, List.getD_nil, l0, foff89_3, one77, cel_row hc6]
    refine ⟨.inr (by simp), ?_⟩
    refine (Bytes_inv w0 (S := 66) e6 em6 (by rw [f5]) (by decide) (by decide) t3).mono ?_
    rintro v h7 ⟨rfl, r7, k7⟩
    have k37 := k36.trans k7
    have hc7 := k37.row hc3 (by simp)
    have q6 := k36.1
    refine ⟨keeps1 ((k36.keep1 qc3 (by simp)).symm.trans (k37.keep1 qc3 (by simp))), vcS_intro ?_⟩
    simp only [true_and, vc_nil, ↓vc_move, ↓vc_assign, ↓vc_pick, ↓vc_nilCheck, ↓vc_bin, ↓vc_un, ↓vc_conv, ↓vc_extract, ↓vc_fieldAddr, ↓vc_len, ↓vc_cap, ↓vc_indexAddr, ↓vc_slice0, ↓vc_sliceH, ↓vc_sliceL, ↓vc_sliceB, ↓vc_load2, ↓vc_load1, ↓vc_store2, ↓vc_store1, ↓vc_call2S, ↓vc_callWS, ↓vc_callQS, ↓vc_guard, ↓ev_tmp, ↓ev_const, ↓ev_func, ↓lk_cons, ↓putL_some, ↓putL_none, ↓List.headD_nil, ↓List.tail_nil, ↓List.headD_cons, ↓List.tail_cons, thn, enumL, ↓reduceIte, Nat.reduceLT, Nat.reduceLeDiff, Nat.reduceEqDiff, Nat.reduceAdd, Nat.reduceMul, Nat.reduceSub, Nat.zero_add, Nat.add_zero, Nat.mul_one, List.map_toArray, List.map_cons, List.map_nil, reduceCtorEq, Int.toNat_natCast, List.getElem?_toArray, List.getElem?_cons_zero, List.getElem?_cons_succ, Bool.not_true, Bool.not_false, bop_lss, bop_leq, bop_gtr, bop_geq, bop_eql, bop_neq, bop_add, bop_sub, bop_mul, bop_and, bop_or, bop_xor, bop_andNot, oc, List.cons_append, List.nil_append, ↓vc_load3, ↓vc_store4, ↓vc_call4S, ↓vc_buildSlice4, ↓vc_load5, ↓vcP_nil, ↓vcP_one, ↓vcP_two, List.getD_cons_zero, List.getD_cons_succ, List.getD_nil, foff89_4, sz30, hc7]
    refine ⟨by simp, by simp, ?_⟩
    rw [set5_4]
    have hc8 := rowOf_hset_self (c := #[s, f, g, .pointer (some ⟨bm, 0, none⟩), .slice (some ⟨h6.size, 0, none⟩) 66 66]) (T := 89) hc7
    have em7 := em3.ch k37 (by simp) (by simp) (by simp)
    have er7 := er3.ch k37 (by simp) (by simp)
    have k8 : Ch [bc] h (hset h7 bc #[s, f, g, .pointer (some ⟨bm, 0, none⟩), .slice (some ⟨h6.size, 0, none⟩) 66 66] 89) := Ch.put (k2.trans ((k3.trans k37).sub (by simp))) _ _ (by simp)
    simp only [fin, resV, res65, true_and]
    refine ⟨k8, bm, bn, ln, br, lr, h6.size, r, ⟨hc8, ⟨(rowOf_hset_ne _ _ (by omega)).trans em7.hm, NA.row1 em7.hn (by omega) (by omega)⟩, NA.row1 er7 (by omega) (by omega), (rowOf_hset_ne _ _ (by omega)).trans ?_, qr⟩⟩
    rw [r7]
    exact congrArg (fun a => some (a, 5)) (RI_congr fun j hj => by rw [t2 ⟨j, hj⟩])
  refine Wc_plan [] [(bc, some 3)] [4, 4, 0, 0, 0, 3, 4, 0, 0, 0, 0, 0] (Plan.one 2 (Plan.one 3 (Plan.one 4 (Plan.one 5 (Plan.two 0 1 (Plan.one 1 (Plan.one 6 (Plan.one 7 (Plan.one 8 (Plan.one 9 (Plan.one 10 (Plan.one 11 Plan.nil))))))) (Plan.one 0 (Plan.one 6 (Plan.one 7 (Plan.one 8 (Plan.one 9 (Plan.one 10 (Plan.one 11 Plan.nil)))))))))))) rfl mixed rfl (by decide) (by kernel_rfl) ?_
  simp only [true_and, vc_nil, ↓vc_move, ↓vc_assign, ↓vc_pick, ↓vc_nilCheck, ↓vc_bin, ↓vc_un, ↓vc_conv, ↓vc_extract, ↓vc_fieldAddr, ↓vc_len, ↓vc_cap, ↓vc_indexAddr, ↓vc_slice0, ↓vc_sliceH, ↓vc_sliceL, ↓vc_sliceB, ↓vc_load2, ↓vc_load1, ↓vc_store2, ↓vc_store1, ↓vc_call2S, ↓vc_callWS, ↓vc_callQS, ↓vc_guard, ↓ev_tmp, ↓ev_const, ↓ev_func, ↓lk_cons, ↓putL_some, ↓putL_none, ↓List.headD_nil, ↓List.tail_nil, ↓List.headD_cons, ↓List.tail_cons, thn, enumL, ↓reduceIte, Nat.reduceLT, Nat.reduceLeDiff, Nat.reduceEqDiff, Nat.reduceAdd, Nat.reduceMul, Nat.reduceSub, Nat.zero_add, Nat.add_zero, Nat.mul_one, List.map_toArray, List.map_cons, List.map_nil, reduceCtorEq, Int.toNat_natCast, List.getElem?_toArray, List.getElem?_cons_zero, List.getElem?_cons_succ, Bool.not_true, Bool.not_false, bop_lss, bop_leq, bop_gtr, bop_geq, bop_eql, bop_neq, bop_add, bop_sub, bop_mul, bop_and, bop_or, bop_xor, bop_andNot, oc, List.cons_append, List.nil_append, ↓vc_load3, ↓vc_store4, ↓vc_call4S, ↓vc_buildSlice4, ↓vc_load5, ↓vcP_nil, ↓vcP_one, ↓vcP_two, List.getD_cons_zero, List.getD_cons_succ, List.getD_nil, foff89_3, one77, cel_row hc2]
  refine ⟨.inr (by simp), ?_, ?_⟩
  · refine (NewNat_inv w0 h2).mono ?_
    rintro v h3 ⟨rfl, e3, k3⟩
    refine ⟨keeps1 (kc _ k3), vcS_intro ?_⟩
    simp only [true_and, vc_nil, ↓vc_move, ↓vc_assign, ↓vc_pick, ↓vc_nilCheck, ↓vc_bin, ↓vc_un, ↓vc_conv, ↓vc_extract, ↓vc_fieldAddr, ↓vc_len, ↓vc_cap, ↓vc_indexAddr, ↓vc_slice0, ↓vc_sliceH, ↓vc_sliceL, ↓vc_sliceB, ↓vc_load2, ↓vc_load1, ↓vc_store2, ↓vc_store1, ↓vc_call2S, ↓vc_callWS, ↓vc_callQS, ↓vc_guard, ↓ev_tmp, ↓ev_const, ↓ev_func, ↓lk_cons, ↓putL_some, ↓putL_none, ↓List.headD_nil, ↓List.tail_nil, ↓List.headD_cons, ↓List.tail_cons, thn, enumL, ↓reduceIte, Nat.reduceLT, Nat.reduceLeDiff, Nat.reduceEqDiff, Nat.reduceAdd, Nat.reduceMul, Nat.reduceSub, Nat.zero_add, Nat.add_zero, Nat.mul_one, List.map_toArray, List.map_cons, List.map_nil, reduceCtorEq, Int.toNat_natCast, List.getElem?_toArray, List.getElem?_cons_zero, List.getElem?_cons_succ, Bool.not_true, Bool.not_false, bop_lss, bop_leq, bop_gtr, bop_geq, bop_eql, bop_neq, bop_add, bop_sub, bop_mul, bop_and, bop_or, bop_xor, bop_andNot, oc, List.cons_append, List.nil_append, ↓vc_load3, ↓vc_store4, ↓vc_call4S, ↓vc_buildSlice4, ↓vc_load5, ↓vcP_nil, ↓vcP_one, ↓vcP_two, List.getD_cons_zero, List.getD_cons_succ, List.getD_nil]
    refine Ro_buildL _ rfl (by simp only [List.map_toArray, List.map_cons, List.map_nil, ev_tmp, ev_const, ev_func, lk_cons, ↓reduceIte, Nat.reduceLT, Nat.reduceEqDiff]) bld2 ?_
    have k4 := k3.trans (Ch.push [] h3 (.cells #[.int .u8 2] 5 (0, 0)))
    have e4 := e3.ch (Ch.push [] h3 (.cells #[.int .u8 2] 5 (0, 0))) (by simp) (by simp)
    have r4 := rowOf_push h3 #[.int .u8 2] 5
    have q1 := e3.lt1
    have q2 := e3.lt2
    refine ⟨keeps1 ((kc _ k3).symm.trans (kc _ k4)), vcS_intro ?_⟩
    simp only [true_and, vc_nil, ↓vc_move, ↓vc_assign, ↓vc_pick, ↓vc_nilCheck, ↓vc_bin, ↓vc_un, ↓vc_conv, ↓vc_extract, ↓vc_fieldAddr, ↓vc_len, ↓vc_cap, ↓vc_indexAddr, ↓vc_slice0, ↓vc_sliceH, ↓vc_sliceL, ↓vc_sliceB, ↓vc_load2, ↓vc_load1, ↓vc_store2, ↓vc_store1, ↓vc_call2S, ↓vc_callWS, ↓vc_callQS, ↓vc_guard, ↓ev_tmp, ↓ev_const, ↓ev_func, ↓lk_cons, ↓putL_some, ↓putL_none, ↓List.headD_nil, ↓List.tail_nil, ↓List.headD_cons, ↓List.tail_cons, thn, enumL, ↓reduceIte, Nat.reduceLT, Nat.reduceLeDiff, Nat.reduceEqDiff, Nat.reduceAdd, Nat.reduceMul, Nat.reduceSub, Nat.zero_add, Nat.add_zero, Nat.mul_one, List.map_toArray, List.map_cons, List.map_nil, reduceCtorEq, Int.toNat_natCast, List.getElem?_toArray, List.getElem?_cons_zero, List.getElem?_cons_succ, Bool.not_true, Bool.not_false, bop_lss, bop_leq, bop_gtr, bop_geq, bop_eql, bop_neq, bop_add, bop_sub, bop_mul, bop_and, bop_or, bop_xor, bop_andNot, oc, List.cons_append, List.nil_append, ↓vc_load3, ↓vc_store4, ↓vc_call4S, ↓vc_buildSlice4, ↓vc_load5, ↓vcP_nil, ↓vcP_one, ↓vcP_two, List.getD_cons_zero, List.getD_cons_succ, List.getD_nil]
    refine (sb _ _ _ _ k4 e4 r4 (by omega) (by omega) (by omega) (by omega)).mono ?_
    rintro v h5 ⟨rfl, e5, k5⟩
    refine ⟨keeps1 ((kc _ k4).symm.trans (kc _ k5)), vcS_intro ?_⟩
    simp only [true_and, vc_nil, ↓vc_move, ↓vc_assign, ↓vc_pick, ↓vc_nilCheck, ↓vc_bin, ↓vc_un, ↓vc_conv, ↓vc_extract, ↓vc_fieldAddr, ↓vc_len, ↓vc_cap, ↓vc_indexAddr, ↓vc_slice0, ↓vc_sliceH, ↓vc_sliceL, ↓vc_sliceB, ↓vc_load2, ↓vc_load1, ↓vc_store2, ↓vc_store1, ↓vc_call2S, ↓vc_callWS, ↓vc_callQS, ↓vc_guard, ↓ev_tmp, ↓ev_const, ↓ev_func, ↓lk_cons, ↓putL_some, ↓putL_none, ↓List.headD_nil, ↓List.tail_nil, ↓List.headD_cons, ↓List.tail_cons, thn, enumL, ↓reduceIte, Nat.reduceLT, Nat.reduceLeDiff, Nat.reduceEqDiff, Nat.reduceAdd, Nat.reduceMul, Nat.reduceSub, Nat.zero_add, Nat.add_zero, Nat.mul_one, List.map_toArray, List.map_cons, List.map_nil, reduceCtorEq, Int.toNat_natCast, List.getElem?_toArray, List.getElem?_cons_zero, List.getElem?_cons_succ, Bool.not_true, Bool.not_false, bop_lss, bop_leq, bop_gtr, bop_geq, bop_eql, bop_neq, bop_add, bop_sub, bop_mul, bop_and, bop_or, bop_xor, bop_andNot, oc, List.cons_append, List.nil_append, ↓vc_load3, ↓vc_store4, ↓vc_call4S, ↓vc_buildSlice4, ↓vc_load5, ↓vcP_nil, ↓vcP_one, ↓vcP_two, List.getD_cons_zero, List.getD_cons_succ, List.getD_nil]
    exact fin4 _ _ _ _ rfl rfl e5 k5 (by omega) (by omega)
  · refine Ro_buildL _ rfl (by simp only [List.map_toArray, List.map_cons, List.map_nil, ev_tmp, ev_const, ev_func, lk_cons, ↓reduceIte, Nat.reduceLT, Nat.reduceEqDiff]) bld2 ?_
    have k4 := Ch.push [] h2 (.cells #[.int .u8 2] 5 (0, 0))
    have r4 := rowOf_push h2 #[.int .u8 2] 5
    have qsz : (h2.push (.cells #[.int .u8 2] 5 (0, 0))).size = h2.size + 1 := by simp
    refine ⟨keeps1 (kc _ k4), vcS_intro ?_⟩
    simp only [true_and, vc_nil, ↓vc_move, ↓vc_assign, ↓vc_pick, ↓vc_nilCheck, ↓vc_bin, ↓vc_un, ↓vc_conv, ↓vc_extract, ↓vc_fieldAddr, ↓vc_len, ↓vc_cap, ↓vc_indexAddr, ↓vc_slice0, ↓vc_sliceH, ↓vc_sliceL, ↓vc_sliceB, ↓vc_load2, ↓vc_load1, ↓vc_store2, ↓vc_store1, ↓vc_call2S, ↓vc_callWS, ↓vc_callQS, ↓vc_guard, ↓ev_tmp, ↓ev_const, ↓ev_func, ↓lk_cons, ↓putL_some, ↓putL_none, ↓List.headD_nil, ↓List.tail_nil, ↓List.headD_cons, ↓List.tail_cons, thn, enumL, ↓reduceIte, Nat.reduceLT, Nat.reduceLeDiff, Nat.reduceEqDiff, Nat.reduceAdd, Nat.reduceMul, Nat.reduceSub, Nat.zero_add, Nat.add_zero, Nat.mul_one, List.map_toArray, List.map_cons, List.map_nil, reduceCtorEq, Int.toNat_natCast, List.getElem?_toArray, List.getElem?_cons_zero, List.getElem?_cons_succ, Bool.not_true, Bool.not_false, bop_lss, bop_leq, bop_gtr, bop_geq, bop_eql, bop_neq, bop_add, bop_sub, bop_mul, bop_and, bop_or, bop_xor, bop_andNot, oc, List.cons_append, List.nil_append, ↓vc_load3, ↓vc_store4, ↓vc_call4S, ↓vc_buildSlice4, ↓vc_load5, ↓vcP_nil, ↓vcP_one, ↓vcP_two, List.getD_cons_zero, List.getD_cons_succ, List.getD_nil]
    refine (NewNat_inv w0 _).mono ?_
    rintro v h3 ⟨rfl, e3, k3⟩
    rw [qsz] at e3 ⊢
    have k6 := k4.trans k3
    refine ⟨keeps1 ((kc _ k4).symm.trans (kc _ k6)), vcS_intro ?_⟩
    simp only [true_and, vc_nil, ↓vc_move, ↓vc_assign, ↓vc_pick, ↓vc_nilCheck, ↓vc_bin, ↓vc_un, ↓vc_conv, ↓vc_extract, ↓vc_fieldAddr, ↓vc_len, ↓vc_cap, ↓vc_indexAddr, ↓vc_slice0, ↓vc_sliceH, ↓vc_sliceL, ↓vc_sliceB, ↓vc_load2, ↓vc_load1, ↓vc_store2, ↓vc_store1, ↓vc_call2S, ↓vc_callWS, ↓vc_callQS, ↓vc_guard, ↓ev_tmp, ↓ev_const, ↓ev_func, ↓lk_cons, ↓putL_some, ↓putL_none, ↓List.headD_nil, ↓List.tail_nil, ↓List.headD_cons, ↓List.tail_cons, thn, enumL, ↓reduceIte, Nat.reduceLT, Nat.reduceLeDiff, Nat.reduceEqDiff, Nat.reduceAdd, Nat.reduceMul, Nat.reduceSub, Nat.zero_add, Nat.add_zero, Nat.mul_one, List.map_toArray, List.map_cons, List.map_nil, reduceCtorEq, Int.toNat_natCast, List.getElem?_toArray, List.getElem?_cons_zero, List.getElem?_cons_succ, Bool.not_true, Bool.not_false, bop_lss, bop_leq, bop_gtr, bop_geq, bop_eql, bop_neq, bop_add, bop_sub, bop_mul, bop_and, bop_or, bop_xor, bop_andNot, oc, List.cons_append, List.nil_append, ↓vc_load3, ↓vc_store4, ↓vc_call4S, ↓vc_buildSlice4, ↓vc_load5, ↓vcP_nil, ↓vcP_one, ↓vcP_two, List.getD_cons_zero, List.getD_cons_succ, List.getD_nil]
    refine (sb _ _ _ _ k6 e3 (k3.row r4 (by simp)) (by omega) (by omega) (by omega) (by omega)).mono ?_
    rintro v h5 ⟨rfl, e5, k5⟩
    refine ⟨keeps1 ((kc _ k6).symm.trans (kc _ k5)), vcS_intro ?_⟩
    simp only [true_and, vc_nil, ↓vc_move, ↓vc_assign, ↓vc_pick, ↓vc_nilCheck, ↓vc_bin, ↓vc_un, ↓vc_conv, ↓vc_extract, ↓vc_fieldAddr, ↓vc_len, ↓vc_cap, ↓vc_indexAddr, ↓vc_slice0, ↓vc_sliceH, ↓vc_sliceL, ↓vc_sliceB, ↓vc_load2, ↓vc_load1, ↓vc_store2, ↓vc_store1, ↓vc_call2S, ↓vc_callWS, ↓vc_callQS, ↓vc_guard, ↓ev_tmp, ↓ev_const, ↓ev_func, ↓lk_cons, ↓putL_some, ↓putL_none, ↓List.headD_nil, ↓List.tail_nil, ↓List.headD_cons, ↓List.tail_cons, thn, enumL, ↓reduceIte, Nat.reduceLT, Nat.reduceLeDiff, Nat.reduceEqDiff, Nat.reduceAdd, Nat.reduceMul, Nat.reduceSub, Nat.zero_add, Nat.add_zero, Nat.mul_one, List.map_toArray, List.map_cons, List.map_nil, reduceCtorEq, Int.toNat_natCast, List.getElem?_toArray, List.getElem?_cons_zero, List.getElem?_cons_succ, Bool.not_true, Bool.not_false, bop_lss, bop_leq, bop_gtr, bop_geq, bop_eql, bop_neq, bop_add, bop_sub, bop_mul, bop_and, bop_or, bop_xor, bop_andNot, oc, List.cons_append, List.nil_append, ↓vc_load3, ↓vc_store4, ↓vc_call4S, ↓vc_buildSlice4, ↓vc_load5, ↓vcP_nil, ↓vcP_one, ↓vcP_two, List.getD_cons_zero, List.getD_cons_succ, List.getD_nil]
    exact fin4 _ _ _ _ rfl rfl e5 k5 (by omega) (by omega)
end Go.Proofs.Ytfakfllmbfjofaa
