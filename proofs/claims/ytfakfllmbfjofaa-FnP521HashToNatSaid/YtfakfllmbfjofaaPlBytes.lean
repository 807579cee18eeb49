import Derived.Test.YtfakfllmbfjofaaPlLimbs
/-! Numbers of bytes, the lowest first, and their limbs: plain laws. -/
namespace BN
/-- the number of m bytes, the lowest first -/
def numB (z : Nat → Nat) : Nat → Nat
  | 0 => 0
  | m + 1 => numB z m + z m * 256 ^ m

theorem numB_lt {z : Nat → Nat} (hz : ∀ j, z j < 256) : ∀ m, numB z m < 256 ^ m
  | 0 => by simp [numB]
  | m + 1 => by
    have h1 := numB_lt hz m
    have h2 : z m * 256 ^ m ≤ 255 * 256 ^ m := Nat.mul_le_mul_right _ (by have := hz m; omega)
    rw [numB, Nat.pow_succ]
    omega

/-- the limb of eight bytes -/
def lw (z : Nat → Nat) (j : Nat) : Nat := numB (fun u => z (8 * j + u)) 8

theorem lw_lt {z : Nat → Nat} (hz : ∀ j, z j < 256) (j : Nat) : lw z j < 18446744073709551616 := numB_lt (fun u => hz _) 8

theorem numB_add (z : Nat → Nat) (a : Nat) : ∀ m, numB z (a + m) = numB z a + 256 ^ a * numB (fun u => z (a + u)) m
  | 0 => by simp [numB]
  | m + 1 => by
    rw [← Nat.add_assoc, numB, numB_add z a m, numB, Nat.mul_add, Nat.pow_add, Nat.add_assoc]
    congr 2
    rw [Nat.mul_left_comm]

theorem val_lw (z : Nat → Nat) : ∀ n, val (lw z) n = numB z (8 * n)
  | 0 => by simp [val, numB]
  | n + 1 => by
    rw [val, val_lw z n, Nat.mul_add, Nat.mul_one, numB_add, lw]
    congr 1
    rw [Nat.pow_mul, Nat.mul_comm]
end BN
