import Derived.Test.YtfakfllmbfjofaaPlLimbs
/-! The inverse modulo 2^64 by Newton's steps; residues in Montgomery's form: plain laws. -/
namespace BN

/-- y (2 - x y), as the machine does it. -/
def newton (x y : Nat) : Nat := y * ((2 + 18446744073709551616 - x * y % 18446744073709551616) % 18446744073709551616) % 18446744073709551616
def newtons (x : Nat) : Nat → Nat
  | 0 => x
  | k + 1 => newton x (newtons x k)

theorem newton_dvd {x y : Nat} {d : Int} (h : d ∣ 1 - (x : Int) * y) (hd : d * d ∣ 18446744073709551616) : d * d ∣ 1 - (x : Int) * newton x y := by
  obtain ⟨a, ha⟩ := h
  obtain ⟨c, hc⟩ := hd
  have e : ∃ t : Int, (newton x y : Int) = y * (2 - x * y) + 18446744073709551616 * t := by
    unfold newton
    have h1 : x * y % 18446744073709551616 < 18446744073709551616 := Nat.mod_lt _ (by decide)
    have h2 := Nat.div_add_mod (x * y) 18446744073709551616
    generalize hr : x * y % 18446744073709551616 = r at *
    have h3 := Nat.div_add_mod (2 + 18446744073709551616 - r) 18446744073709551616
    generalize hs : (2 + 18446744073709551616 - r) % 18446744073709551616 = s at *
    have h4 := Nat.div_add_mod (y * s) 18446744073709551616
    generalize hu : y * s % 18446744073709551616 = u at *
    have a1 : (u : Int) = y * s - 18446744073709551616 * (y * s / 18446744073709551616 : Nat) := by
      have := congrArg (Nat.cast (R := Int)) h4; simp only [Int.natCast_add, Int.natCast_mul] at this; omega
    have a2 : (s : Int) = 2 - x * y + 18446744073709551616 * (1 + (x * y / 18446744073709551616 : Nat) - ((2 + 18446744073709551616 - r) / 18446744073709551616 : Nat)) := by
      have b1 := congrArg (Nat.cast (R := Int)) h2; simp only [Int.natCast_add, Int.natCast_mul] at b1
      omega
    refine ⟨y * (1 + (x * y / 18446744073709551616 : Nat) - ((2 + 18446744073709551616 - r) / 18446744073709551616 : Nat)) - (y * s / 18446744073709551616 : Nat), ?_⟩
    rw [a1, a2]
    generalize ((x * y / 18446744073709551616 : Nat) : Int) = p
    generalize (((2 + 18446744073709551616 - r) / 18446744073709551616 : Nat) : Int) = q
    generalize ((y * s / 18446744073709551616 : Nat) : Int) = v
    grind
  obtain ⟨t, ht⟩ := e
  refine ⟨a * a - c * x * t, ?_⟩
  rw [ht]
  have : 1 - (x : Int) * (y * (2 - x * y) + 18446744073709551616 * t) = (1 - x * y) * (1 - x * y) - 18446744073709551616 * (x * t) := by grind
  rw [this, ha, hc]
  grind

theorem odd_sq (x : Nat) (h : x % 2 = 1) : (8 : Int) ∣ 1 - (x : Int) * x := by
  have h8 : x % 8 = 1 ∨ x % 8 = 3 ∨ x % 8 = 5 ∨ x % 8 = 7 := by omega
  obtain ⟨q, hq⟩ : ∃ q, x = 8 * q + x % 8 := ⟨x / 8, by omega⟩
  rcases h8 with e | e | e | e <;> rw [e] at hq <;> subst hq
  · exact ⟨-(8 * q * q + 2 * q), by grind⟩
  · exact ⟨-(8 * q * q + 6 * q + 1), by grind⟩
  · exact ⟨-(8 * q * q + 10 * q + 3), by grind⟩
  · exact ⟨-(8 * q * q + 14 * q + 6), by grind⟩

theorem newton_lt (x y : Nat) : newton x y < 18446744073709551616 := Nat.mod_lt _ (by decide)

theorem newtons_inv (x : Nat) (h : x % 2 = 1) : x * newtons x 5 % 18446744073709551616 = 1 := by
  have h0 := odd_sq x h
  have h1 := newton_dvd (y := newtons x 0) h0 (by decide)
  have h2 := newton_dvd (y := newtons x 1) h1 (by decide)
  have h3 := newton_dvd (y := newtons x 2) h2 (by decide)
  have h4 := newton_dvd (y := newtons x 3) h3 (by decide)
  have h4' : (4294967296 : Int) ∣ 1 - x * newtons x 4 := Int.dvd_trans (by decide) h4
  have h5 := newton_dvd (y := newtons x 4) h4' (by decide)
  obtain ⟨t, ht⟩ := h5
  have e : (x : Int) * newtons x 5 = 1 - 18446744073709551616 * t := by
    show (x : Int) * (newton x (newtons x 4) : Nat) = _
    omega
  have e2 : ((x * newtons x 5 : Nat) : Int) = 1 - 18446744073709551616 * t := by rw [Int.natCast_mul]; exact e
  omega

/-- less the inverse -/
def negInv (x : Nat) : Nat := (18446744073709551616 - newtons x 5) % 18446744073709551616

theorem negInv_spec (x : Nat) (h : x % 2 = 1) : (negInv x * x + 1) % 18446744073709551616 = 0 := by
  have h1 := newtons_inv x h
  have h2 : newtons x 5 < 18446744073709551616 := newton_lt _ _
  unfold negInv
  generalize newtons x 5 = y at *
  have hy : y ≠ 0 := by rintro rfl; simp at h1
  rw [Nat.mod_eq_of_lt (show 18446744073709551616 - y < 18446744073709551616 by omega)]
  have e : (18446744073709551616 - y) * x + y * x = 18446744073709551616 * x := by rw [← Nat.add_mul]; congr 1; omega
  rw [Nat.mul_comm x y] at h1
  generalize y * x = p at *
  generalize (18446744073709551616 - y) * x = q at *
  have : (q + p) % 18446744073709551616 = 0 := by rw [e]; exact Nat.mul_mod_right _ _
  omega

/-! ### residues: X stands for x: X < M, X = x R modulo M -/
def Rep (M R X x : Nat) : Prop := X < M ∧ X % M = x * R % M

/-- cancellation of a number that is coprime to M -/
theorem cancel_mod {M R a b : Nat} (hc : Nat.Coprime M R) (h : a * R % M = b * R % M) : a % M = b % M := by
  rcases Nat.le_total b a with hab | hab
  · have h1 : M ∣ a * R - b * R := Nat.dvd_of_mod_eq_zero (Nat.sub_mod_eq_zero_of_mod_eq h)
    rw [← Nat.sub_mul] at h1
    obtain ⟨c, hc'⟩ := hc.dvd_of_dvd_mul_right h1
    rw [show a = b + M * c from by omega, Nat.add_mul_mod_self_left]
  · have h1 : M ∣ b * R - a * R := Nat.dvd_of_mod_eq_zero (Nat.sub_mod_eq_zero_of_mod_eq h.symm)
    rw [← Nat.sub_mul] at h1
    obtain ⟨c, hc'⟩ := hc.dvd_of_dvd_mul_right h1
    rw [show b = a + M * c from by omega, Nat.add_mul_mod_self_left]

/-- Montgomery's product of residues -/
theorem Rep.mul {M R X Y Z x y : Nat} (hc : Nat.Coprime M R) (hx : Rep M R X x) (hy : Rep M R Y y) (hZ : Z < M) (h : Z * R % M = X * Y % M) : Rep M R Z (x * y) := by
  refine ⟨hZ, cancel_mod hc ?_⟩
  rw [h, Nat.mul_mod, hx.2, hy.2, ← Nat.mul_mod]
  congr 1
  simp only [Nat.mul_left_comm, Nat.mul_comm]

theorem Rep.congr {M R X x y : Nat} (hx : Rep M R X x) (h : x % M = y % M) : Rep M R X y :=
  ⟨hx.1, by rw [hx.2, Nat.mul_mod, h, ← Nat.mul_mod]⟩

/-- back: Montgomery's product with 1 -/
theorem Rep.out {M R X Z x : Nat} (hc : Nat.Coprime M R) (hx : Rep M R X x) (hZ : Z < M) (h : Z * R % M = X * 1 % M) : Z = x % M := by
  rw [Nat.mul_one, hx.2] at h
  have := cancel_mod hc h
  rw [← this, Nat.mod_eq_of_lt hZ]

/-- in: Montgomery's product with R R -/
theorem Rep.into {M R X Z rr : Nat} (hc : Nat.Coprime M R) (hrr : rr % M = R * R % M) (hZ : Z < M) (h : Z * R % M = X * rr % M) : Rep M R Z X := by
  refine ⟨hZ, cancel_mod hc ?_⟩
  rw [h, Nat.mul_mod, hrr, ← Nat.mul_mod, Nat.mul_assoc]

end BN
