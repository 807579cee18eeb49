/- The small functions on words: math/bits' Add, Sub, Mul; bigmod's not, ctMask, ctEq. -/
import Derived.Test.YtfakfllmbfjofaaFacts
import Derived.Test.YtfakfllmbfjofaaPlLimbs
import Derived.Test.YtfakfllmbfjofaaPlMInv
import Derived.Shelf.Bits.Mul64
import Derived.WalkLawsBesides
open Go Go.Fl
namespace Go.Proofs.Ytfakfllmbfjofaa
set_option linter.unusedSimpArgs false
set_option linter.unusedVariables false

theorem add64_run (x y c : Nat) (hc : c ≤ 1) (w : World) : (callFunc 131 #[.int .u64 x, .int .u64 y, .int .u64 c]).run Try.prog w =
    .ok (.value (.tuple #[.int .u64 (((x + y + c) % 18446744073709551616 : Nat) : Int), .int .u64 (((x + y + c) / 18446744073709551616 : Nat) : Int)])) w := by
  rw [run_callFunc_extern Try.func131 (by kernel_rfl) (by kernel_rfl) (by kernel_rfl) (e := add64Entry) (by kernel_rfl), run_add64 x y c (by omega) (by omega) (by omega) (by omega)]
  simp only [Result.andThen]
  congr 5 <;> omega

def sub64E : Array Value → Sem Value := fun args => do
  let (x, y, b) ← Extern.MathBitsCarry.three "Sub64" args
  pure (Extern.MathBitsCarry.pair ((x + Extern.MathBitsCarry.m64 - y - b) % Extern.MathBitsCarry.m64) (if x < y + b then 1 else 0))
theorem run_sub64E {P : Program} (x y b : Nat) (hb : b ≤ 1) (w : World) :
    (sub64E #[.int .u64 x, .int .u64 y, .int .u64 b]).run P w =
      .ok (.tuple #[.int .u64 (((x + 18446744073709551616 - y - b) % 18446744073709551616 : Nat) : Int), .int .u64 ((if x < y + b then 1 else 0 : Nat) : Int)]) w := by
  have : b = 0 ∨ b = 1 := by omega
  rcases this with rfl | rfl <;> rfl
theorem sub64_run (x y c : Nat) (hc : c ≤ 1) (w : World) : (callFunc 127 #[.int .u64 x, .int .u64 y, .int .u64 c]).run Try.prog w =
    .ok (.value (.tuple #[.int .u64 (((x + 18446744073709551616 - y - c) % 18446744073709551616 : Nat) : Int), .int .u64 ((if x < y + c then 1 else 0 : Nat) : Int)])) w := by
  rw [run_callFunc_extern Try.func127 (by kernel_rfl) (by kernel_rfl) (by kernel_rfl) (e := sub64E) (by kernel_rfl), run_sub64E x y c hc]
  rfl

theorem add_q (w0 : World) (h : Hp) (x y c : Nat) (hc : c ≤ 1) : InvQ Try.prog w0 122 #[.int .u64 x, .int .u64 y, .int .u64 c] h
    (.tuple #[.int .u64 (((x + y + c) % 18446744073709551616 : Nat) : Int), .int .u64 (((x + y + c) / 18446744073709551616 : Nat) : Int)]) := by
  refine InvQ_of_calls hb122 fun k => ?_
  go_enter Try.func122, Try.ntmps122
  go_wp2_with (simp only [add64_run _ _ _ hc])
  go_ret2
  exact ⟨rfl, rfl⟩

theorem sub_q (w0 : World) (h : Hp) (x y c : Nat) (hc : c ≤ 1) : InvQ Try.prog w0 110 #[.int .u64 x, .int .u64 y, .int .u64 c] h
    (.tuple #[.int .u64 (((x + 18446744073709551616 - y - c) % 18446744073709551616 : Nat) : Int), .int .u64 ((if x < y + c then 1 else 0 : Nat) : Int)]) := by
  refine InvQ_of_calls hb110 fun k => ?_
  obtain ⟨d, hd⟩ : ∃ d : Nat, d = (if x < y + c then 1 else 0 : Nat) := ⟨_, rfl⟩
  obtain ⟨e, he⟩ : ∃ e : Nat, e = (x + 18446744073709551616 - y - c) % 18446744073709551616 := ⟨_, rfl⟩
  have hr : ∀ w, (callFunc 127 #[.int .u64 x, .int .u64 y, .int .u64 c]).run Try.prog w = .ok (.value (.tuple #[.int .u64 e, .int .u64 d])) w := fun w => by rw [sub64_run x y c hc, hd, he]
  rw [← hd, ← he]
  clear hd he
  go_enter Try.func110, Try.ntmps110
  go_wp2_with (simp only [hr])
  go_ret2
  exact ⟨rfl, rfl⟩

open Go.RowKit Go.Lib in
set_option maxHeartbeats 1000000 in
theorem mul64_calls (x y : Nat) (hx : x < 18446744073709551616) (hy : y < 18446744073709551616) (w : World) :
    Calls Try.prog 134 #[.int .u64 x, .int .u64 y] w fun e w' => e = .returned (.tuple #[.int .u64 ((x * y / 18446744073709551616 : Nat) : Int), .int .u64 ((x * y % 18446744073709551616 : Nat) : Int)]) ∧ w' = w := by
  obtain ⟨bd, bt, bw, hhi⟩ := Lib.mul64_hi x y hx hy
  have ba := Lib.half_mul_le (a := x / 4294967296) (b := y / 4294967296) (by omega) (by omega)
  have bb := Lib.half_mul_le (a := x / 4294967296) (b := y % 4294967296) (by omega) (by omega)
  have bc := Lib.half_mul_le (a := x % 4294967296) (b := y / 4294967296) (by omega) (by omega)
  have ba' : x / 4294967296 * (y / 4294967296) < 18446744073709551616 := by omega
  have bb' : x / 4294967296 * (y % 4294967296) < 18446744073709551616 := by omega
  have bc' : x % 4294967296 * (y / 4294967296) < 18446744073709551616 := by omega
  have bh1 : x / 4294967296 * (y / 4294967296) + (x / 4294967296 * (y % 4294967296) + x % 4294967296 * (y % 4294967296) / 4294967296) / 4294967296 < 18446744073709551616 := by omega
  have bh : x / 4294967296 * (y / 4294967296) + (x / 4294967296 * (y % 4294967296) + x % 4294967296 * (y % 4294967296) / 4294967296) / 4294967296 + ((x / 4294967296 * (y % 4294967296) + x % 4294967296 * (y % 4294967296) / 4294967296) % 4294967296 + x % 4294967296 * (y / 4294967296)) / 4294967296 < 18446744073709551616 := by omega
  go_enter Try.func134, Try.ntmps134
  go_wp2
  simp only [Mul64.maskN x hx, Mul64.maskN y hy, Mul64.divN, Mul64.mulN, Mul64.addN, Mul64.wrapN _ bd, Mul64.wrapN _ bb', Mul64.wrapN _ bt, Mul64.maskN _ bt, Mul64.wrapN _ bc', Mul64.wrapN _ bw, Mul64.wrapN _ ba', Mul64.wrapN _ bh1, Mul64.wrapN _ bh, Mul64.wrapM (x * y)]
  rw [hhi]
  go_ret2
  exact ⟨rfl, rfl⟩

theorem mul_q (w0 : World) (h : Hp) (x y : Nat) (hx : x < 18446744073709551616) (hy : y < 18446744073709551616) : InvQ Try.prog w0 132 #[.int .u64 x, .int .u64 y] h
    (.tuple #[.int .u64 ((x * y / 18446744073709551616 : Nat) : Int), .int .u64 ((x * y % 18446744073709551616 : Nat) : Int)]) := by
  refine InvQ_of_calls hb132 fun k => ?_
  go_enter Try.func132, Try.ntmps132
  go_wp2_with (go_at_call 134; refine (mul64_calls x y hx hy _).mono ?_; rintro e w' ⟨rfl, rfl⟩)
  go_ret2
  exact ⟨rfl, rfl⟩

theorem not_q (w0 : World) (h : Hp) (c : Nat) (hc : c ≤ 1) : InvQ Try.prog w0 111 #[.int .u64 c] h (.int .u64 ((1 - c : Nat) : Int)) := by
  refine InvQ_of_calls hb111 fun k => ?_
  have h : c = 0 ∨ c = 1 := by omega
  rcases h with rfl | rfl
  · go_enter Try.func111, Try.ntmps111
    go_wp2
    go_ret
    exact ⟨rfl, rfl⟩
  · go_enter Try.func111, Try.ntmps111
    go_wp2
    go_ret
    exact ⟨rfl, rfl⟩

theorem ctMask_q (w0 : World) (h : Hp) (c : Nat) (hc : c ≤ 1) : InvQ Try.prog w0 123 #[.int .u64 c] h (.int .u64 ((if c = 1 then 18446744073709551615 else 0 : Nat) : Int)) := by
  refine InvQ_of_calls hb123 fun k => ?_
  have h : c = 0 ∨ c = 1 := by omega
  rcases h with rfl | rfl
  · go_enter Try.func123, Try.ntmps123
    go_wp2
    go_ret
    exact ⟨rfl, rfl⟩
  · go_enter Try.func123, Try.ntmps123
    go_wp2
    go_ret
    exact ⟨rfl, rfl⟩
end Go.Proofs.Ytfakfllmbfjofaa
