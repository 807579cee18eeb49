/-! Numbers in limbs of 64 bits: plain laws. -/
namespace BN

/-- The number of the first n limbs, the lowest first. -/
def val (x : Nat → Nat) : Nat → Nat
  | 0 => 0
  | n + 1 => val x n + x n * 18446744073709551616 ^ n

theorem val_congr {x y : Nat → Nat} {n : Nat} (h : ∀ j, j < n → x j = y j) : val x n = val y n := by
  induction n with
  | zero => rfl
  | succ n ih => rw [val, val, ih fun j hj => h j (by omega), h n (by omega)]

theorem pow_pos (n : Nat) : 0 < 18446744073709551616 ^ n := Nat.pos_of_ne_zero (by simp)

theorem val_lt {x : Nat → Nat} {n : Nat} (h : ∀ j, j < n → x j < 18446744073709551616) : val x n < 18446744073709551616 ^ n := by
  induction n with
  | zero => simp [val]
  | succ n ih =>
    have h1 := ih fun j hj => h j (by omega)
    have h2 := h n (by omega)
    rw [val, Nat.pow_succ]
    have : x n * 18446744073709551616 ^ n + 18446744073709551616 ^ n ≤ 18446744073709551616 ^ n * 18446744073709551616 := by
      rw [← Nat.succ_mul, Nat.mul_comm (18446744073709551616 ^ n)]
      exact Nat.mul_le_mul_right _ h2
    omega

theorem val_zero (n : Nat) : val (fun _ => 0) n = 0 := by
  induction n with
  | zero => rfl
  | succ n ih => rw [val, ih]; simp

theorem val_eq_zero {x : Nat → Nat} {n : Nat} (h : val x n = 0) : ∀ j, j < n → x j = 0 := by
  induction n with
  | zero => intro j hj; omega
  | succ n ih =>
    rw [val] at h
    have h1 : val x n = 0 := by omega
    have h2 : x n * 18446744073709551616 ^ n = 0 := by omega
    have h3 : x n = 0 := by
      rcases Nat.mul_eq_zero.1 h2 with h | h
      · exact h
      · have := pow_pos n; omega
    intro j hj
    by_cases hjn : j = n
    · rw [hjn]; exact h3
    · exact ih h1 j (by omega)

/-- the lowest limb, and the rest -/
theorem val_succ' (x : Nat → Nat) (n : Nat) : val x (n + 1) = x 0 + 18446744073709551616 * val (fun j => x (j + 1)) n := by
  induction n with
  | zero => simp [val]
  | succ n ih =>
    rw [val, ih, val, Nat.pow_succ]
    simp only [Nat.mul_add, Nat.add_assoc]
    congr 2
    rw [Nat.mul_comm (18446744073709551616 ^ n), Nat.mul_left_comm]

theorem val_mod (x : Nat → Nat) (n : Nat) (h0 : x 0 < 18446744073709551616) : val x (n + 1) % 18446744073709551616 = x 0 := by
  rw [val_succ', Nat.add_mul_mod_self_left, Nat.mod_eq_of_lt h0]

theorem val_inj {x y : Nat → Nat} {n : Nat} (hx : ∀ j, j < n → x j < 18446744073709551616) (hy : ∀ j, j < n → y j < 18446744073709551616)
    (h : val x n = val y n) : ∀ j, j < n → x j = y j := by
  induction n with
  | zero => intro j hj; omega
  | succ n ih =>
    have h1 := val_lt fun j hj => hx j (Nat.lt_succ_of_lt hj)
    have h2 := val_lt fun j hj => hy j (Nat.lt_succ_of_lt hj)
    rw [val, val] at h
    have hp := pow_pos n
    have e1 : x n = y n := by
      have a1 : (val x n + x n * 18446744073709551616 ^ n) / 18446744073709551616 ^ n = x n := by
        rw [Nat.add_mul_div_right _ _ hp, Nat.div_eq_of_lt h1, Nat.zero_add]
      have a2 : (val y n + y n * 18446744073709551616 ^ n) / 18446744073709551616 ^ n = y n := by
        rw [Nat.add_mul_div_right _ _ hp, Nat.div_eq_of_lt h2, Nat.zero_add]
      rw [← a1, ← a2, h]
    have e2 : val x n = val y n := by rw [e1] at h; omega
    intro j hj
    by_cases hjn : j = n
    · rw [hjn]; exact e1
    · exact ih (fun j hj => hx j (Nat.lt_succ_of_lt hj)) (fun j hj => hy j (Nat.lt_succ_of_lt hj)) e2 j (by omega)

/-- the limbs of a number -/
def limb (v j : Nat) : Nat := v / 18446744073709551616 ^ j % 18446744073709551616

theorem limb_lt (v j : Nat) : limb v j < 18446744073709551616 := Nat.mod_lt _ (by decide)

theorem val_limb (v n : Nat) : val (limb v) n = v % 18446744073709551616 ^ n := by
  induction n with
  | zero => simp [val, Nat.mod_one]
  | succ n ih =>
    rw [val, ih, limb, Nat.pow_succ, Nat.mod_mul, Nat.mul_comm (v / _ % _)]

theorem limb_val {x : Nat → Nat} {n : Nat} (hx : ∀ j, j < n → x j < 18446744073709551616) : ∀ j, j < n → x j = limb (val x n) j :=
  val_inj hx (fun j _ => limb_lt _ j) (by rw [val_limb, Nat.mod_eq_of_lt (val_lt hx)])

/-! the sum -/
def carry (x y : Nat → Nat) (c : Nat) : Nat → Nat
  | 0 => c
  | k + 1 => (x k + y k + carry x y c k) / 18446744073709551616
def sum (x y : Nat → Nat) (c : Nat) (k : Nat) : Nat := (x k + y k + carry x y c k) % 18446744073709551616

theorem sum_lt (x y : Nat → Nat) (c k : Nat) : sum x y c k < 18446744073709551616 := Nat.mod_lt _ (by decide)

theorem carry_le {x y : Nat → Nat} {c : Nat} (hc : c ≤ 1) : ∀ k, (∀ j, j < k → x j < 18446744073709551616) → (∀ j, j < k → y j < 18446744073709551616) → carry x y c k ≤ 1
  | 0, _, _ => hc
  | k + 1, hx, hy => by
    have := carry_le hc k (fun j hj => hx j (by omega)) (fun j hj => hy j (by omega))
    have h1 := hx k (by omega)
    have h2 := hy k (by omega)
    rw [carry]; omega

theorem val_sum (x y : Nat → Nat) (c : Nat) (k : Nat) : val (sum x y c) k + carry x y c k * 18446744073709551616 ^ k = val x k + val y k + c := by
  induction k with
  | zero => simp [val, carry]
  | succ k ih =>
    have h : sum x y c k + 18446744073709551616 * carry x y c (k + 1) = x k + y k + carry x y c k := by
      rw [sum, carry]; exact Nat.mod_add_div _ _
    rw [val, val, val, Nat.pow_succ]
    generalize 18446744073709551616 ^ k = P at *
    have h2 := congrArg (· * P) h
    simp only [Nat.add_mul] at h2
    rw [show carry x y c (k + 1) * (P * 18446744073709551616) = 18446744073709551616 * carry x y c (k + 1) * P from by
      rw [Nat.mul_comm P, ← Nat.mul_assoc, Nat.mul_comm (carry x y c (k + 1))]]
    omega

/-! the difference -/
def borrow (x y : Nat → Nat) (c : Nat) : Nat → Nat
  | 0 => c
  | k + 1 => if x k < y k + borrow x y c k then 1 else 0
def diff (x y : Nat → Nat) (c : Nat) (k : Nat) : Nat := (x k + 18446744073709551616 - y k - borrow x y c k) % 18446744073709551616

theorem diff_lt (x y : Nat → Nat) (c k : Nat) : diff x y c k < 18446744073709551616 := Nat.mod_lt _ (by decide)

theorem borrow_le {x y : Nat → Nat} {c : Nat} (hc : c ≤ 1) : ∀ k, borrow x y c k ≤ 1
  | 0 => hc
  | k + 1 => by rw [borrow]; split <;> omega

theorem val_diff {x y : Nat → Nat} {c : Nat} (hc : c ≤ 1) : ∀ k, (∀ j, j < k → x j < 18446744073709551616) → (∀ j, j < k → y j < 18446744073709551616) →
    val (diff x y c) k + val y k + c = val x k + borrow x y c k * 18446744073709551616 ^ k
  | 0, _, _ => by simp [val, borrow]
  | k + 1, hx, hy => by
    have ih := val_diff hc k (fun j hj => hx j (by omega)) (fun j hj => hy j (by omega))
    have h1 := hx k (by omega)
    have h2 := hy k (by omega)
    have hb := borrow_le (x := x) (y := y) hc k
    have h : diff x y c k + y k + borrow x y c k = x k + 18446744073709551616 * borrow x y c (k + 1) := by
      rw [diff, borrow]; split <;> omega
    rw [val, val, val, Nat.pow_succ]
    generalize 18446744073709551616 ^ k = P at *
    have h2 := congrArg (· * P) h
    simp only [Nat.add_mul] at h2
    rw [show borrow x y c (k + 1) * (P * 18446744073709551616) = 18446744073709551616 * borrow x y c (k + 1) * P from by
      rw [Nat.mul_comm P, ← Nat.mul_assoc, Nat.mul_comm (borrow x y c (k + 1))]]
    omega

/-- the last borrow tells which number is the less -/
theorem borrow_eq {x y : Nat → Nat} {n : Nat} (hx : ∀ j, j < n → x j < 18446744073709551616) (hy : ∀ j, j < n → y j < 18446744073709551616) :
    borrow x y 0 n = if val x n < val y n then 1 else 0 := by
  have h := val_diff (c := 0) (by omega) n hx hy
  have hb := borrow_le (x := x) (y := y) (c := 0) (by omega) n
  have h1 := val_lt (x := diff x y 0) (n := n) fun j _ => diff_lt x y 0 j
  have h2 := val_lt hx
  have : borrow x y 0 n = 0 ∨ borrow x y 0 n = 1 := by omega
  rcases this with e | e <;> rw [e] at h ⊢ <;> split <;> omega

/-! a row of the school product: z + x * y -/
def mcarry (z x : Nat → Nat) (y : Nat) : Nat → Nat
  | 0 => 0
  | k + 1 => (z k + x k * y + mcarry z x y k) / 18446744073709551616
def mrow (z x : Nat → Nat) (y : Nat) (k : Nat) : Nat := (z k + x k * y + mcarry z x y k) % 18446744073709551616

theorem mrow_lt (z x : Nat → Nat) (y k : Nat) : mrow z x y k < 18446744073709551616 := Nat.mod_lt _ (by decide)

theorem mul_lt64 {a b : Nat} (ha : a < 18446744073709551616) (hb : b < 18446744073709551616) : a * b ≤ 340282366920938463426481119284349108225 := by
  have : a * b ≤ 18446744073709551615 * 18446744073709551615 := Nat.mul_le_mul (by omega) (by omega)
  simpa using this

theorem mcarry_lt {z x : Nat → Nat} {y : Nat} (hy : y < 18446744073709551616) : ∀ k, (∀ j, j < k → z j < 18446744073709551616) → (∀ j, j < k → x j < 18446744073709551616) →
    mcarry z x y k < 18446744073709551616
  | 0, _, _ => by simp [mcarry]
  | k + 1, hz, hx => by
    have := mcarry_lt hy k (fun j hj => hz j (by omega)) (fun j hj => hx j (by omega))
    have h1 := hz k (by omega)
    have h2 := mul_lt64 (hx k (by omega)) hy
    rw [mcarry]; omega

theorem val_mrow (z x : Nat → Nat) (y k : Nat) : val (mrow z x y) k + mcarry z x y k * 18446744073709551616 ^ k = val z k + val x k * y := by
  induction k with
  | zero => simp [val, mcarry]
  | succ k ih =>
    have h : mrow z x y k + 18446744073709551616 * mcarry z x y (k + 1) = z k + x k * y + mcarry z x y k := by
      rw [mrow, mcarry]; exact Nat.mod_add_div _ _
    rw [val, val, val, Nat.pow_succ]
    generalize 18446744073709551616 ^ k = P at *
    have h2 := congrArg (· * P) h
    simp only [Nat.add_mul] at h2 ⊢
    rw [show mcarry z x y (k + 1) * (P * 18446744073709551616) = 18446744073709551616 * mcarry z x y (k + 1) * P from by
      rw [Nat.mul_comm P, ← Nat.mul_assoc, Nat.mul_comm (mcarry z x y (k + 1))], show x k * P * y = x k * y * P from by
      rw [Nat.mul_assoc, Nat.mul_comm P, ← Nat.mul_assoc]]
    omega

end BN
