/-! Numbers in words of 32 bits: plain laws. -/
namespace BW

/-- The number of the first n limbs, the lowest first. -/
def val (x : Nat → Nat) : Nat → Nat
  | 0 => 0
  | n + 1 => val x n + x n * 4294967296 ^ n

theorem val_congr {x y : Nat → Nat} {n : Nat} (h : ∀ j, j < n → x j = y j) : val x n = val y n := by
  induction n with
  | zero => rfl
  | succ n ih => rw [val, val, ih fun j hj => h j (by omega), h n (by omega)]

theorem pow_pos (n : Nat) : 0 < 4294967296 ^ n := Nat.pos_of_ne_zero (by simp)

theorem val_lt {x : Nat → Nat} {n : Nat} (h : ∀ j, j < n → x j < 4294967296) : val x n < 4294967296 ^ n := by
  induction n with
  | zero => simp [val]
  | succ n ih =>
    have h1 := ih fun j hj => h j (by omega)
    have h2 := h n (by omega)
    rw [val, Nat.pow_succ]
    have : x n * 4294967296 ^ n + 4294967296 ^ n ≤ 4294967296 ^ n * 4294967296 := by
      rw [← Nat.succ_mul, Nat.mul_comm (4294967296 ^ n)]
      exact Nat.mul_le_mul_right _ h2
    omega

theorem val_zero (n : Nat) : val (fun _ => 0) n = 0 := by
  induction n with
  | zero => rfl
  | succ n ih => rw [val, ih]; simp

theorem val_eq_zero {x : Nat → Nat} {n : Nat} (h : val x n = 0) : ∀ j, j < n → x j = 0 := by
  induction n with
  | zero => intro j hj; omega
  | succ n ih =>
    rw [val] at h
    have h1 : val x n = 0 := by omega
    have h2 : x n * 4294967296 ^ n = 0 := by omega
    have h3 : x n = 0 := by
      rcases Nat.mul_eq_zero.1 h2 with h | h
      · exact h
      · have := pow_pos n; omega
    intro j hj
    by_cases hjn : j = n
    · rw [hjn]; exact h3
    · exact ih h1 j (by omega)

/-- the lowest limb, and the rest -/
theorem val_succ' (x : Nat → Nat) (n : Nat) : val x (n + 1) = x 0 + 4294967296 * val (fun j => x (j + 1)) n := by
  induction n with
  | zero => simp [val]
  | succ n ih =>
    rw [val, ih, val, Nat.pow_succ]
    simp only [Nat.mul_add, Nat.add_assoc]
    congr 2
    rw [Nat.mul_comm (4294967296 ^ n), Nat.mul_left_comm]

theorem val_mod (x : Nat → Nat) (n : Nat) (h0 : x 0 < 4294967296) : val x (n + 1) % 4294967296 = x 0 := by
  rw [val_succ', Nat.add_mul_mod_self_left, Nat.mod_eq_of_lt h0]

theorem val_inj {x y : Nat → Nat} {n : Nat} (hx : ∀ j, j < n → x j < 4294967296) (hy : ∀ j, j < n → y j < 4294967296)
    (h : val x n = val y n) : ∀ j, j < n → x j = y j := by
  induction n with
  | zero => intro j hj; omega
  | succ n ih =>
    have h1 := val_lt fun j hj => hx j (Nat.lt_succ_of_lt hj)
    have h2 := val_lt fun j hj => hy j (Nat.lt_succ_of_lt hj)
    rw [val, val] at h
    have hp := pow_pos n
    have e1 : x n = y n := by
      have a1 : (val x n + x n * 4294967296 ^ n) / 4294967296 ^ n = x n := by
        rw [Nat.add_mul_div_right _ _ hp, Nat.div_eq_of_lt h1, Nat.zero_add]
      have a2 : (val y n + y n * 4294967296 ^ n) / 4294967296 ^ n = y n := by
        rw [Nat.add_mul_div_right _ _ hp, Nat.div_eq_of_lt h2, Nat.zero_add]
      rw [← a1, ← a2, h]
    have e2 : val x n = val y n := by rw [e1] at h; omega
    intro j hj
    by_cases hjn : j = n
    · rw [hjn]; exact e1
    · exact ih (fun j hj => hx j (Nat.lt_succ_of_lt hj)) (fun j hj => hy j (Nat.lt_succ_of_lt hj)) e2 j (by omega)

/-- the limbs of a number -/
def limb (v j : Nat) : Nat := v / 4294967296 ^ j % 4294967296

theorem limb_lt (v j : Nat) : limb v j < 4294967296 := Nat.mod_lt _ (by decide)

theorem val_limb (v n : Nat) : val (limb v) n = v % 4294967296 ^ n := by
  induction n with
  | zero => simp [val, Nat.mod_one]
  | succ n ih =>
    rw [val, ih, limb, Nat.pow_succ, Nat.mod_mul, Nat.mul_comm (v / _ % _)]

theorem limb_val {x : Nat → Nat} {n : Nat} (hx : ∀ j, j < n → x j < 4294967296) : ∀ j, j < n → x j = limb (val x n) j :=
  val_inj hx (fun j _ => limb_lt _ j) (by rw [val_limb, Nat.mod_eq_of_lt (val_lt hx)])


/-! words that may be more than 32 bits, or below 0, put within 32 bits -/
def ival (x : Nat → Int) : Nat → Int
  | 0 => 0
  | n + 1 => ival x n + x n * 4294967296 ^ n

theorem ival_congr {x y : Nat → Int} {n : Nat} (h : ∀ j, j < n → x j = y j) : ival x n = ival y n := by
  induction n with
  | zero => rfl
  | succ n ih => rw [ival, ival, ih fun j hj => h j (by omega), h n (by omega)]

theorem ival_cast (x : Nat → Nat) (n : Nat) : ival (fun j => (x j : Int)) n = (val x n : Int) := by
  induction n with
  | zero => rfl
  | succ n ih => rw [ival, ih, val]; simp

theorem ival_add (x y : Nat → Int) (n : Nat) : ival (fun j => x j + y j) n = ival x n + ival y n := by
  induction n with
  | zero => rfl
  | succ n ih => rw [ival, ih, ival, ival, Int.add_mul]; omega

theorem ival_sub (x y : Nat → Int) (n : Nat) : ival (fun j => x j - y j) n = ival x n - ival y n := by
  induction n with
  | zero => rfl
  | succ n ih => rw [ival, ih, ival, ival, Int.sub_mul]; omega

def icarry (x : Nat → Int) : Nat → Int
  | 0 => 0
  | k + 1 => (icarry x k + x k) / 4294967296
def iput (x : Nat → Int) (k : Nat) : Nat := ((icarry x k + x k) % 4294967296).toNat

theorem iput_lt (x : Nat → Int) (k : Nat) : iput x k < 4294967296 := by
  unfold iput
  have := Int.emod_lt_of_pos (icarry x k + x k) (show (0 : Int) < 4294967296 by decide)
  have := Int.emod_nonneg (icarry x k + x k) (show (4294967296 : Int) ≠ 0 by decide)
  omega

theorem iput_cast (x : Nat → Int) (k : Nat) : (iput x k : Int) = (icarry x k + x k) % 4294967296 := by
  unfold iput
  have := Int.emod_nonneg (icarry x k + x k) (show (4294967296 : Int) ≠ 0 by decide)
  omega

theorem icarry_bd {x : Nat → Int} {m : Int} (hm : 1 ≤ m) : ∀ k, (∀ j, j < k → -(m * 4294967295) ≤ x j ∧ x j ≤ m * 4294967295) → -m ≤ icarry x k ∧ icarry x k ≤ m
  | 0, _ => by simp [icarry]; omega
  | k + 1, h => by
    have h1 := icarry_bd hm k fun j hj => h j (by omega)
    have h2 := h k (by omega)
    rw [icarry]; omega

theorem ival_put (x : Nat → Int) (k : Nat) : (val (iput x) k : Int) + icarry x k * 4294967296 ^ k = ival x k := by
  induction k with
  | zero => simp [val, icarry, ival]
  | succ k ih =>
    have h : (iput x k : Int) + 4294967296 * icarry x (k + 1) = icarry x k + x k := by
      rw [iput_cast, icarry]; omega
    rw [val, ival, Int.pow_succ, ← ih]
    simp only [Int.natCast_add, Int.natCast_mul, Int.natCast_pow]
    rw [show ((4294967296 : Nat) : Int) = 4294967296 from rfl]
    generalize (4294967296 : Int) ^ k = P at *
    have h2 := congrArg (· * P) h
    simp only [Int.add_mul] at h2
    rw [show icarry x (k + 1) * (P * 4294967296) = 4294967296 * icarry x (k + 1) * P from by
      rw [Int.mul_comm P, ← Int.mul_assoc, Int.mul_comm (icarry x (k + 1))]]
    omega

/-- What is carried out of the highest word, and the words: the quotient and the rest. -/
theorem carried_spec (x : Nat → Int) (k : Nat) : icarry x k = ival x k / 4294967296 ^ k ∧ (val (iput x) k : Int) = ival x k % 4294967296 ^ k := by
  have h := ival_put x k
  have h1 := val_lt (x := iput x) (n := k) fun j _ => iput_lt x j
  have hp : (0 : Int) < 4294967296 ^ k := by
    have := pow_pos k
    have e : ((4294967296 ^ k : Nat) : Int) = 4294967296 ^ k := by simp
    omega
  have h1' : (val (iput x) k : Int) < 4294967296 ^ k := by
    have e : ((4294967296 ^ k : Nat) : Int) = 4294967296 ^ k := by simp
    omega
  rw [← h]
  refine ⟨?_, ?_⟩
  · rw [Int.add_mul_ediv_right _ _ (by omega), Int.ediv_eq_zero_of_lt (by omega) h1', Int.zero_add]
  · rw [Int.add_mul_emod_self_right, Int.emod_eq_of_lt (by omega) h1']

/-- is the number below the other one: from the highest word down -/
def below (a b : Nat → Nat) : Nat → Bool
  | 0 => false
  | k + 1 => if a k ≠ b k then decide (a k < b k) else below a b k

theorem below_spec {a b : Nat → Nat} : ∀ k, (∀ j, j < k → a j < 4294967296) → (∀ j, j < k → b j < 4294967296) → below a b k = decide (val a k < val b k)
  | 0, _, _ => by simp [below, val]
  | k + 1, ha, hb => by
    have ih := below_spec k (fun j hj => ha j (by omega)) (fun j hj => hb j (by omega))
    have h1 := val_lt (x := a) (n := k) fun j hj => ha j (by omega)
    have h2 := val_lt (x := b) (n := k) fun j hj => hb j (by omega)
    rw [below, val, val]
    split
    · rename_i hne
      congr 1
      apply propext
      constructor
      · intro h
        have : (a k + 1) * 4294967296 ^ k ≤ b k * 4294967296 ^ k := Nat.mul_le_mul_right _ h
        rw [Nat.add_mul, Nat.one_mul] at this
        omega
      · intro h
        rcases Nat.lt_or_ge (a k) (b k) with h' | h'
        · exact h'
        · have : (b k + 1) * 4294967296 ^ k ≤ a k * 4294967296 ^ k := Nat.mul_le_mul_right _ (by omega)
          rw [Nat.add_mul, Nat.one_mul] at this
          omega
    · rename_i he
      have he : a k = b k := by simpa using he
      rw [ih, he]
      congr 1
      apply propext
      omega

/-- the byte of a number -/
def byteAt (v i : Nat) : Nat := v / 256 ^ i % 256

theorem byteAt_word {x : Nat → Nat} {n i : Nat} (hx : ∀ j, j < n → x j < 4294967296) (hi : i < 4 * n) : byteAt (val x n) i = x (i / 4) / 256 ^ (i % 4) % 256 := by
  rw [limb_val hx (i / 4) (by omega), limb, byteAt]
  have e : 256 ^ i = 4294967296 ^ (i / 4) * 256 ^ (i % 4) := by
    rw [show (4294967296 : Nat) = 256 ^ 4 from rfl, ← Nat.pow_mul, ← Nat.pow_add]; congr 1; omega
  rw [e, ← Nat.div_div_eq_div_mul]
  generalize val x n / 4294967296 ^ (i / 4) = u
  have : i % 4 < 4 := Nat.mod_lt _ (by decide)
  have : i % 4 = 0 ∨ i % 4 = 1 ∨ i % 4 = 2 ∨ i % 4 = 3 := by omega
  rcases this with h | h | h | h <;> rw [h] <;> simp <;> omega

end BW
