import Derived.Test.YtfakfllmbfjofaaPlLimbs
/-! Montgomery's product, word by word: plain laws. -/
namespace BN

/-- One round: the window w with its carry c takes a * d in, and so many times m that its lowest limb is 0; then it is moved on by a limb. -/
def mw1 (a : Nat → Nat) (d : Nat) (w : Nat → Nat) : Nat → Nat := mrow w a d
def mY (a : Nat → Nat) (m0 d : Nat) (w : Nat → Nat) : Nat := mw1 a d w 0 * m0 % 18446744073709551616
def mw2 (a m : Nat → Nat) (m0 d : Nat) (w : Nat → Nat) : Nat → Nat := mrow (mw1 a d w) m (mY a m0 d w)
def mtop (a m : Nat → Nat) (n m0 d : Nat) (w : Nat → Nat) (c : Nat) : Nat := mcarry w a d n + mcarry (mw1 a d w) m (mY a m0 d w) n + c

def mont (a b m : Nat → Nat) (n m0 : Nat) : Nat → (Nat → Nat) × Nat
  | 0 => (fun _ => 0, 0)
  | i + 1 =>
    (fun j => if j + 1 < n then mw2 a m m0 (b i) (mont a b m n m0 i).1 (j + 1) else mtop a m n m0 (b i) (mont a b m n m0 i).1 (mont a b m n m0 i).2 % 18446744073709551616,
     mtop a m n m0 (b i) (mont a b m n m0 i).1 (mont a b m n m0 i).2 / 18446744073709551616)

theorem val_shift_top (x : Nat → Nat) (t n : Nat) (h0 : x 0 = 0) :
    18446744073709551616 * val (fun j => if j + 1 < n + 1 then x (j + 1) else t) (n + 1) = val x (n + 1) + t * 18446744073709551616 ^ (n + 1) := by
  rw [val, if_neg (by omega), val_succ' x n, h0, Nat.pow_succ, Nat.zero_add, Nat.mul_add]
  congr 1
  · congr 1
    exact val_congr fun j hj => if_pos (by omega)
  · rw [Nat.mul_comm, Nat.mul_assoc]

theorem low_zero {w m0 m : Nat} (h : (m0 * m + 1) % 18446744073709551616 = 0) : (w + m * (w * m0 % 18446744073709551616)) % 18446744073709551616 = 0 := by
  have e : (w + m * (w * m0 % 18446744073709551616)) % 18446744073709551616 = (w * (m0 * m + 1)) % 18446744073709551616 := by
    rw [Nat.add_mod, Nat.mul_mod_mod, ← Nat.add_mod]
    congr 1
    rw [Nat.mul_add, Nat.mul_one, Nat.add_comm]
    congr 1
    rw [Nat.mul_comm m, Nat.mul_assoc]
  rw [e, Nat.mul_mod, h, Nat.mul_zero, Nat.zero_mod]

structure MontInv (a b m : Nat → Nat) (n m0 i : Nat) : Prop where
  lt : ∀ j, j < n → (mont a b m n m0 i).1 j < 18446744073709551616
  le : (mont a b m n m0 i).2 ≤ 1
  eq : ∃ q, q < 18446744073709551616 ^ i ∧ (val (mont a b m n m0 i).1 n + (mont a b m n m0 i).2 * 18446744073709551616 ^ n) * 18446744073709551616 ^ i = val a n * val b i + val m n * q

theorem mont_inv {a b m : Nat → Nat} {n m0 : Nat} (hn : 0 < n) (ha : ∀ j, j < n → a j < 18446744073709551616) (hb : ∀ j, j < n → b j < 18446744073709551616)
    (hm : ∀ j, j < n → m j < 18446744073709551616) (h0 : (m0 * m 0 + 1) % 18446744073709551616 = 0) : ∀ i, i ≤ n → MontInv a b m n m0 i
  | 0, _ => ⟨fun _ _ => by simp [mont], by simp [mont], 0, by simp, by simp [mont, val_zero, val]⟩
  | i + 1, hi => by
    obtain ⟨hlt, hle, q, hq, heq⟩ := mont_inv hn ha hb hm h0 i (by omega)
    have hd := hb i (by omega)
    have e1 : ∀ (w : Nat → Nat) (c : Nat), (∀ j, j < n → w j < 18446744073709551616) → c ≤ 1 →
        ∃ Y, Y < 18446744073709551616 ∧ mtop a m n m0 (b i) w c / 18446744073709551616 ≤ 1 ∧ 
        18446744073709551616 * (val (fun j => if j + 1 < n then mw2 a m m0 (b i) w (j + 1) else mtop a m n m0 (b i) w c % 18446744073709551616) n
          + mtop a m n m0 (b i) w c / 18446744073709551616 * 18446744073709551616 ^ n)
          = val w n + c * 18446744073709551616 ^ n + val a n * b i + val m n * Y := by
      intro w c hw hc
      refine ⟨mY a m0 (b i) w, Nat.mod_lt _ (by decide), ?_, ?_⟩
      · have h1 := mcarry_lt hd n hw ha
        have h2 := mcarry_lt (z := mw1 a (b i) w) (x := m) (y := mY a m0 (b i) w) (Nat.mod_lt _ (by decide)) n (fun j _ => mrow_lt _ _ _ _) hm
        unfold mtop; omega
      · obtain ⟨n', rfl⟩ : ∃ n', n = n' + 1 := ⟨n - 1, by omega⟩
        have h1 := val_mrow w a (b i) (n' + 1)
        have h2 := val_mrow (mw1 a (b i) w) m (mY a m0 (b i) w) (n' + 1)
        have hz : mw2 a m m0 (b i) w 0 = 0 := by
          show (mw1 a (b i) w 0 + m 0 * (mw1 a (b i) w 0 * m0 % 18446744073709551616) + 0) % 18446744073709551616 = 0
          exact low_zero h0
        rw [Nat.mul_add, val_shift_top _ _ _ hz]
        have h3 := Nat.mod_add_div (mtop a m (n' + 1) m0 (b i) w c) 18446744073709551616
        have h4 : mtop a m (n' + 1) m0 (b i) w c = mcarry w a (b i) (n' + 1) + mcarry (mw1 a (b i) w) m (mY a m0 (b i) w) (n' + 1) + c := rfl
        have h5 := congrArg (· * 18446744073709551616 ^ (n' + 1)) (h3.trans h4)
        simp only [Nat.add_mul] at h5
        rw [show mw2 a m m0 (b i) w = mrow (mw1 a (b i) w) m (mY a m0 (b i) w) from rfl]
        rw [show mrow w a (b i) = mw1 a (b i) w from rfl] at h1
        rw [Nat.mul_assoc] at h5
        omega
    obtain ⟨Y, hY, hc', hE⟩ := e1 (mont a b m n m0 i).1 (mont a b m n m0 i).2 hlt hle
    refine ⟨fun j hj => ?_, hc', q + Y * 18446744073709551616 ^ i, ?_, ?_⟩
    · rw [mont]; simp only []; split
      · exact mrow_lt _ _ _ _
      · exact Nat.mod_lt _ (by decide)
    · rw [Nat.pow_succ]
      have : Y * 18446744073709551616 ^ i + 18446744073709551616 ^ i ≤ 18446744073709551616 ^ i * 18446744073709551616 := by
        rw [← Nat.succ_mul, Nat.mul_comm (18446744073709551616 ^ i)]; exact Nat.mul_le_mul_right _ hY
      omega
    · rw [mont]
      simp only []
      rw [Nat.pow_succ, Nat.mul_comm (18446744073709551616 ^ i), ← Nat.mul_assoc, Nat.mul_comm _ 18446744073709551616, hE, val]
      generalize 18446744073709551616 ^ i = P at *
      generalize 18446744073709551616 ^ n = R at *
      rw [Nat.add_mul, Nat.add_mul, heq, Nat.mul_add, Nat.mul_add]
      simp only [Nat.mul_assoc]
      omega

/-- The product, less m where it is not below: below m, and times B^n it is the product of both modulo m. -/
theorem mont_final {a b m : Nat → Nat} {n m0 : Nat} (hn : 0 < n) (ha : ∀ j, j < n → a j < 18446744073709551616) (hb : ∀ j, j < n → b j < 18446744073709551616)
    (hm : ∀ j, j < n → m j < 18446744073709551616) (h0 : (m0 * m 0 + 1) % 18446744073709551616 = 0) (hab : val a n < val m n) :
    let V := val (mont a b m n m0 n).1 n + (mont a b m n m0 n).2 * 18446744073709551616 ^ n
    V < 2 * val m n ∧ V * 18446744073709551616 ^ n % val m n = val a n * val b n % val m n := by
  obtain ⟨hlt, hle, q, hq, heq⟩ := mont_inv hn ha hb hm h0 n (Nat.le_refl n)
  intro V
  have hB := val_lt hb
  refine ⟨?_, ?_⟩
  · have h1 : val a n * val b n + val m n * q < (2 * val m n) * 18446744073709551616 ^ n := by
      have e1 : val a n * val b n ≤ val m n * 18446744073709551616 ^ n := Nat.mul_le_mul (by omega) (by omega)
      have e2 : val m n * q < val m n * 18446744073709551616 ^ n := Nat.mul_lt_mul_of_pos_left hq (by omega)
      rw [Nat.mul_assoc, Nat.two_mul]
      omega
    rw [← heq] at h1
    exact Nat.lt_of_mul_lt_mul_right h1
  · show V * _ % _ = _
    rw [heq, Nat.add_mul_mod_self_left]

end BN
