/- What the limbs that bigmod leaves are worth: sums, differences and Montgomery's products modulo the modulus. -/
import Derived.Test.YtfakfllmbfjofaaW9
open Go Go.Fl
namespace Go.Proofs.Ytfakfllmbfjofaa

theorem msub_val {c n : Nat} {S N : Nat → Nat} (hc : c ≤ 1) (hS : ∀ j, j < n → S j < 18446744073709551616) (hN : ∀ j, j < n → N j < 18446744073709551616)
    (hV : BN.val S n + c * 18446744073709551616 ^ n < 2 * BN.val N n) : BN.val (msub c S N n) n = (BN.val S n + c * 18446744073709551616 ^ n) % BN.val N n := by
  have h1 := BN.val_diff (c := 0) (by omega) n hS hN
  have h2 := BN.borrow_eq hS hN
  have h3 := BN.val_lt hN
  have h4 := BN.val_lt hS
  have h5 := BN.val_lt (x := BN.diff S N 0) (n := n) fun j _ => BN.diff_lt _ _ _ _
  have e : ∀ k, keepB c S N n = k → BN.val (msub c S N n) n = if k = 1 then BN.val (BN.diff S N 0) n else BN.val S n := by
    intro k hk
    by_cases h : k = 1
    · rw [if_pos h]; exact BN.val_congr fun j hj => by unfold msub; rw [if_pos hj, hk, if_pos h]
    · rw [if_neg h]; exact BN.val_congr fun j hj => by unfold msub; rw [if_pos hj, hk, if_neg h]
  rw [h2] at h1
  generalize 18446744073709551616 ^ n = B at *
  rw [e _ rfl]
  unfold keepB
  rw [h2]
  have hmod : (BN.val S n + c * B) % BN.val N n = if BN.val S n + c * B < BN.val N n then BN.val S n + c * B else BN.val S n + c * B - BN.val N n := by
    split
    · exact Nat.mod_eq_of_lt (by assumption)
    · rw [Nat.mod_eq_sub_mod (by omega), Nat.mod_eq_of_lt (by omega)]
  rw [hmod]
  have hc2 : c = 0 ∨ c = 1 := by omega
  rcases hc2 with rfl | rfl
  · by_cases hl : BN.val S n < BN.val N n
    · simp [hl]
    · simp [hl] at h1 ⊢; omega
  · by_cases hl : BN.val S n < BN.val N n
    · simp [hl] at h1 ⊢; split <;> omega
    · simp [hl] at h1 ⊢; split <;> omega

theorem addL_val {n : Nat} {x y N : Nat → Nat} (hx : ∀ j, j < n → x j < 18446744073709551616) (hy : ∀ j, j < n → y j < 18446744073709551616) (hN : ∀ j, j < n → N j < 18446744073709551616)
    (hX : BN.val x n < BN.val N n) (hY : BN.val y n < BN.val N n) : BN.val (addL x y N n) n = (BN.val x n + BN.val y n) % BN.val N n := by
  have h1 := BN.val_sum x y 0 n
  have h2 : BN.val (fun j => if j < n then BN.sum x y 0 j else x j) n = BN.val (BN.sum x y 0) n := BN.val_congr fun j hj => if_pos hj
  have h3 := BN.carry_le (x := x) (y := y) (c := 0) (by omega) n hx hy
  unfold addL
  rw [msub_val h3 (fun j hj => by rw [if_pos hj]; exact BN.sum_lt _ _ _ _) hN (by rw [h2]; omega), h2, h1, Nat.add_zero]

theorem montL_val {n m0 : Nat} {a b N r : Nat → Nat} (h0 : 0 < n) (ha : ∀ j, j < n → a j < 18446744073709551616) (hb : ∀ j, j < n → b j < 18446744073709551616) (hN : ∀ j, j < n → N j < 18446744073709551616)
    (hm : (m0 * N 0 + 1) % 18446744073709551616 = 0) (hA : BN.val a n < BN.val N n) :
    BN.val (montL a b N n m0 r) n < BN.val N n ∧ BN.val (montL a b N n m0 r) n * 18446744073709551616 ^ n % BN.val N n = BN.val a n * BN.val b n % BN.val N n := by
  obtain ⟨h1, h2⟩ := BN.mont_final h0 ha hb hN hm hA
  have hi := BN.mont_inv h0 ha hb hN hm n (Nat.le_refl n)
  have h3 : BN.val (fun j => if j < n then (BN.mont a b N n m0 n).1 j else r j) n = BN.val (BN.mont a b N n m0 n).1 n := BN.val_congr fun j hj => if_pos hj
  have e : BN.val (montL a b N n m0 r) n = (BN.val (BN.mont a b N n m0 n).1 n + (BN.mont a b N n m0 n).2 * 18446744073709551616 ^ n) % BN.val N n := by
    unfold montL
    rw [msub_val hi.le (fun j hj => by rw [if_pos hj]; exact hi.lt j hj) hN (by rw [h3]; exact h1), h3]
  rw [e]
  refine ⟨Nat.mod_lt _ (by omega), ?_⟩
  rw [← h2, Nat.mul_mod, Nat.mod_mod, ← Nat.mul_mod]

theorem subL_val {n : Nat} {x y N : Nat → Nat} (hx : ∀ j, j < n → x j < 18446744073709551616) (hy : ∀ j, j < n → y j < 18446744073709551616) (hN : ∀ j, j < n → N j < 18446744073709551616)
    (_hX : BN.val x n < BN.val N n) (hY : BN.val y n ≤ BN.val N n) : BN.val (subL x y N n) n = if BN.val x n < BN.val y n then BN.val x n + BN.val N n - BN.val y n else BN.val x n - BN.val y n := by
  have h1 := BN.val_diff (c := 0) (by omega) n hx hy
  have h2 := BN.borrow_eq hx hy
  have h3 := BN.val_lt hN
  have h5 := BN.val_lt (x := BN.diff x y 0) (n := n) fun j _ => BN.diff_lt _ _ _ _
  have h6 := BN.val_sum (BN.diff x y 0) N 0 n
  have h7 := BN.val_lt (x := BN.sum (BN.diff x y 0) N 0) (n := n) fun j _ => BN.sum_lt _ _ _ _
  have h8 := BN.carry_le (x := BN.diff x y 0) (y := N) (c := 0) (by omega) n (fun j _ => BN.diff_lt _ _ _ _) hN
  have e : ∀ k, BN.borrow x y 0 n = k → BN.val (subL x y N n) n = if k = 1 then BN.val (BN.sum (BN.diff x y 0) N 0) n else BN.val (BN.diff x y 0) n := by
    intro k hk
    by_cases h : k = 1
    · rw [if_pos h]; exact BN.val_congr fun j hj => by unfold subL; rw [if_pos hj, hk, if_pos h]
    · rw [if_neg h]; exact BN.val_congr fun j hj => by unfold subL; rw [if_pos hj, hk, if_neg h]
  rw [e _ rfl, h2]
  rw [h2] at h1
  generalize 18446744073709551616 ^ n = B at *
  have h9 : BN.carry (BN.diff x y 0) N 0 n = 0 ∨ BN.carry (BN.diff x y 0) N 0 n = 1 := by omega
  by_cases hl : BN.val x n < BN.val y n
  · simp [hl] at h1 ⊢
    rcases h9 with h9 | h9 <;> rw [h9] at h6 <;> omega
  · simp [hl] at h1 ⊢; omega

/-- powers of two, by doubling and by squaring in Montgomery's form -/
structure Pow2 (N : Nat → Nat) (n e : Nat) (x : Nat → Nat) : Prop where
  eq : BN.val x n = 2 ^ e % BN.val N n

theorem Pow2.dbl {N x : Nat → Nat} {n e : Nat} (hx : ∀ j, x j < 18446744073709551616) (hN : ∀ j, N j < 18446744073709551616) (h0 : 0 < BN.val N n) (h : Pow2 N n e x) : Pow2 N n (e + 1) (addL x x N n) := by
  have hl : BN.val x n < BN.val N n := by rw [h.eq]; exact Nat.mod_lt _ h0
  refine ⟨?_⟩
  rw [addL_val (fun j _ => hx j) (fun j _ => hx j) (fun j _ => hN j) hl hl, h.eq, ← Nat.add_mod, Nat.pow_succ]
  congr 1; omega

theorem odd_coprime {M : Nat} (h : M % 2 = 1) : ∀ k, Nat.Coprime M (2 ^ k) := fun k => by
  have : Nat.Coprime M 2 := by
    have : Nat.gcd M 2 = Nat.gcd (2) M := Nat.gcd_comm _ _
    rw [Nat.Coprime, this, Nat.gcd_rec, h]
    decide
  exact Nat.Coprime.pow_right k this

theorem pow64 (n : Nat) : 18446744073709551616 ^ n = 2 ^ (64 * n) := by rw [Nat.pow_mul]

theorem Pow2.sq {N x r : Nat → Nat} {n m0 e : Nat} (hx : ∀ j, x j < 18446744073709551616) (hN : ∀ j, N j < 18446744073709551616) (h0 : 0 < n) (hodd : BN.val N n % 2 = 1)
    (hm : (m0 * N 0 + 1) % 18446744073709551616 = 0) (he : 64 * n ≤ e) (h : Pow2 N n e x) : Pow2 N n (2 * e - 64 * n) (montL x x N n m0 r) := by
  have hl : BN.val x n < BN.val N n := by rw [h.eq]; exact Nat.mod_lt _ (by omega)
  obtain ⟨h1, h2⟩ := montL_val (r := r) h0 (fun j _ => hx j) (fun j _ => hx j) (fun j _ => hN j) hm hl
  refine ⟨?_⟩
  rw [h.eq, ← Nat.mul_mod, ← Nat.pow_add, pow64] at h2
  have e2 : e + e = (2 * e - 64 * n) + 64 * n := by omega
  rw [e2, Nat.pow_add] at h2
  have h3 := BN.cancel_mod (odd_coprime hodd (64 * n)) h2
  rw [Nat.mod_eq_of_lt h1] at h3
  exact h3
end Go.Proofs.Ytfakfllmbfjofaa
