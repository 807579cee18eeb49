/- Bytes of limbs and of words are those of the number; bits of the top limb. -/
import Derived.Test.YtfakfllmbfjofaaX2
import Derived.Test.YtfakfllmbfjofaaV1
open Go Go.Fl
namespace Go.Proofs.Ytfakfllmbfjofaa

theorem byteN_val {x : Nat → Nat} {n t : Nat} (hx : ∀ j, j < n → x j < 18446744073709551616) (hi : t < 8 * n) : byteN x t = BN.val x n / 256 ^ t % 256 := by
  have h0 := BN.limb_val hx (t / 8) (by omega)
  unfold byteN
  rw [h0, BN.limb]
  have e : 256 ^ t = 18446744073709551616 ^ (t / 8) * 256 ^ (t % 8) := by
    rw [show (18446744073709551616 : Nat) = 256 ^ 8 from rfl, ← Nat.pow_mul, ← Nat.pow_add]; congr 1; omega
  rw [e, ← Nat.div_div_eq_div_mul]
  generalize BN.val x n / 18446744073709551616 ^ (t / 8) = u
  have : t % 8 < 8 := Nat.mod_lt _ (by decide)
  have : t % 8 = 0 ∨ t % 8 = 1 ∨ t % 8 = 2 ∨ t % 8 = 3 ∨ t % 8 = 4 ∨ t % 8 = 5 ∨ t % 8 = 6 ∨ t % 8 = 7 := by omega
  rcases this with h | h | h | h | h | h | h | h <;> rw [h] <;> simp <;> omega

theorem bI_val {r : Nat → Nat} {n t : Nat} (hr : ∀ j, r j < 4294967296) (hi : t < 4 * n) : bI (fun j => (r j : Int)) t = ((BW.val r n / 256 ^ t % 256 : Nat) : Int) := by
  have h1 := BW.byteAt_word (x := r) (n := n) (i := t) (fun j _ => hr j) hi
  unfold BW.byteAt at h1
  rw [h1]
  unfold bI
  have e : ((r (t / 4) : Nat) : Int).fdiv (2 ^ (8 * (t % 4))) = ((r (t / 4) / 256 ^ (t % 4) : Nat) : Int) := by
    rw [Int.fdiv_eq_ediv_of_nonneg _ (by exact Int.le_of_lt (Int.pow_pos (by decide)))]
    rw [show (256 : Nat) ^ (t % 4) = 2 ^ (8 * (t % 4)) by rw [Nat.pow_mul]]
    simp
  rw [e, IntKind.wrap_u8]
  rfl

theorem blen_of_lt : ∀ (f k x : Nat), x < 2 ^ k → blen f x ≤ k
  | 0, _, _, _ => Nat.zero_le _
  | f + 1, k, x, h => by
    rw [blen]
    split
    · omega
    · rename_i h0
      cases k with
      | zero => simp at h; exact absurd h h0
      | succ k =>
        have := blen_of_lt f k (x / 2) (by rw [Nat.pow_succ] at h; omega)
        omega

theorem top_lt2 {x : Nat → Nat} {k t : Nat} (h : BN.val x (k + 1) < 2 ^ (64 * k + t)) : x k < 2 ^ t := by
  rw [BN.val, show (18446744073709551616 : Nat) ^ k = 2 ^ (64 * k) by rw [Nat.pow_mul], Nat.pow_add] at h
  have h2 : x k * 2 ^ (64 * k) < 2 ^ t * 2 ^ (64 * k) := by rw [Nat.mul_comm (2 ^ t)]; omega
  exact Nat.lt_of_mul_lt_mul_right h2
theorem top_lt3 {x : Nat → Nat} {k t c : Nat} (h : BN.val x (k + 1) < 2 ^ c) (hc : c = 64 * k + t) : x k < 2 ^ t := by
  subst hc
  exact top_lt2 h
end Go.Proofs.Ytfakfllmbfjofaa
