/- ecdsa: a curve in memory. -/
import Derived.Test.YtfakfllmbfjofaaW21
import Derived.Test.YtfakfllmbfjofaaV1
import Derived.Test.YtfakfllmbfjofaaFlRow
open Go Go.Fl
namespace Go.Proofs.Ytfakfllmbfjofaa
set_option linter.unusedSimpArgs false
set_option linter.unusedVariables false

/-- a curve in memory: its order of S bytes and n limbs N, and the bytes m2 of the order less 2 -/
structure CA (T : TypeId) (S n : Nat) (N : Nat → Nat) (m2 : Nat → Nat) (h : Hp) (bc bm bn ln br lr b2 : Nat) (rr : Nat → Nat) (s f g : Value) : Prop where
  hc : rowOf h bc = some (#[s, f, g, .pointer (some ⟨bm, 0, none⟩), .slice (some ⟨b2, 0, none⟩) S S], T)
  hm : MA h bm bn ln n N (.bool true) (.int .u64 (BN.negInv (N 0))) (.pointer (some ⟨br, 0, none⟩))
  hr : NA h br lr n rr
  h2 : rowOf h b2 = some (RI .u8 (fun p => (m2 p : Int)) S, 5)
  q : Pow2 N n (128 * n) rr

theorem CA.ch {B : List Nat} {T : TypeId} {S n : Nat} {N m2 : Nat → Nat} {h h' : Hp} {bc bm bn ln br lr b2 : Nat} {rr : Nat → Nat} {s f g : Value} (e : CA T S n N m2 h bc bm bn ln br lr b2 rr s f g) (k : Ch B h h')
    (h1 : ∀ b, b ∈ B → h.size ≤ b) : CA T S n N m2 h' bc bm bn ln br lr b2 rr s f g := by
  have k0 : Ch [] h h' := k.new fun i hi => .inr (h1 i hi)
  exact ⟨k0.row e.hc (by simp), e.hm.ch k0 (by simp) (by simp) (by simp), e.hr.ch k0 (by simp) (by simp), k0.row e.h2 (by simp), e.q⟩

theorem set5_3 (a b c d e v : Value) : (#[a, b, c, d, e] : Array Value).setIfInBounds 3 v = #[a, b, c, v, e] := rfl
theorem set5_4 (a b c d e v : Value) : (#[a, b, c, d, e] : Array Value).setIfInBounds 4 v = #[a, b, c, d, v] := rfl
end Go.Proofs.Ytfakfllmbfjofaa
