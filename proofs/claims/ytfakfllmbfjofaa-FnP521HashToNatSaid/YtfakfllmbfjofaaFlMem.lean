/- Rows of numbers in memory; heaps that differ in some rows. -/
import Derived.Test.YtfakfllmbfjofaaFlVc
namespace Go.Fl
open Go

theorem rowOf_hset_self {h : Hp} {b : Nat} {c c' : Array Value} {T T' : TypeId} (e : rowOf h b = some (c', T')) : rowOf (hset h b c T) b = some (c, T) := by
  have hlt : b < h.size := (Array.getElem?_eq_some_iff.1 (rowOf_eq e)).1
  refine rowOf_of ?_
  unfold hset
  rw [Array.getElem?_setIfInBounds, if_pos rfl, if_pos hlt]

theorem hset_get_ne {h : Hp} {b b' : Nat} (c : Array Value) (T : TypeId) (hne : b ≠ b') : (hset h b c T)[b']? = h[b']? := by
  unfold hset
  rw [Array.getElem?_setIfInBounds, if_neg hne]

theorem rowOf_hset_ne {h : Hp} {b b' : Nat} (c : Array Value) (T : TypeId) (hne : b ≠ b') : rowOf (hset h b c T) b' = rowOf h b' := by
  unfold rowOf; rw [hset_get_ne c T hne]

theorem hset_self {h : Hp} {b : Nat} {c : Array Value} {T : TypeId} (e : rowOf h b = some (c, T)) : hset h b c T = h := by
  have hb := rowOf_eq e
  apply Array.ext_getElem?
  intro i
  unfold hset
  rw [Array.getElem?_setIfInBounds]
  split
  · rename_i hi; subst hi
    have hlt : b < h.size := (Array.getElem?_eq_some_iff.1 hb).1
    rw [if_pos hlt, hb]
  · rfl

theorem hset_hset (h : Hp) (b : Nat) (c c' : Array Value) (T T' : TypeId) : hset (hset h b c T) b c' T' = hset h b c' T' := by
  apply Array.ext_getElem?
  intro i
  unfold hset
  rw [Array.getElem?_setIfInBounds, Array.getElem?_setIfInBounds, Array.size_setIfInBounds, Array.getElem?_setIfInBounds]
  split <;> rfl

theorem hset_size (h : Hp) (b : Nat) (c : Array Value) (T : TypeId) : (hset h b c T).size = h.size := by
  unfold hset; exact Array.size_setIfInBounds

/-- a row of numbers of 64 bits -/
def U (x : Nat → Nat) (N : Nat) : Array Value := Array.ofFn fun i : Fin N => .int .u64 (x i.val)

theorem U_size (x : Nat → Nat) (N : Nat) : (U x N).size = N := by simp [U]

theorem U_get {x : Nat → Nat} {N i : Nat} (h : i < N) : (U x N)[i]? = some (.int .u64 (x i)) := by
  unfold U; rw [Array.getElem?_ofFn, dif_pos h]

theorem U_congr {x y : Nat → Nat} {N : Nat} (h : ∀ j, j < N → x j = y j) : U x N = U y N := by
  unfold U; congr 1; funext i; rw [h i.val i.isLt]

theorem U_inj {x y : Nat → Nat} {N : Nat} (h : U x N = U y N) : ∀ j, j < N → x j = y j := by
  intro j hj
  have := congrArg (fun a : Array Value => a[j]?) h
  simp only [U_get hj, Option.some.injEq, Value.int.injEq, true_and] at this
  omega

theorem U_set {x : Nat → Nat} {N i v : Nat} : (U x N).setIfInBounds i (.int .u64 (v : Int)) = U (fun j => if j = i then v else x j) N := by
  apply Array.ext_getElem?
  intro j
  rw [Array.getElem?_setIfInBounds, U_size]
  by_cases hj : j < N
  · rw [U_get hj]
    by_cases e : i = j
    · subst e; simp [hj, U_get hj]
    · rw [if_neg e, U_get hj, if_neg (Ne.symm e)]
  · have h1 : (U (fun j => if j = i then v else x j) N)[j]? = none := Array.getElem?_eq_none (by rw [U_size]; omega)
    have h2 : (U x N)[j]? = none := Array.getElem?_eq_none (by rw [U_size]; omega)
    rw [h1, h2]
    split
    · rename_i e; subst e; rw [if_neg hj]
    · rfl

/-- a cell of a row that is, or is not, the row that has been written -/
theorem cel_alias {h : Hp} {b b' : Nat} {x y z : Nat → Nat} {N M k : Nat} {T T' : TypeId} (hx : rowOf h b = some (U x N, T)) (hy : rowOf h b' = some (U y M, T')) (hk : k < M) (hz : z k = x k) :
    cel (hset h b (U z N) T) ⟨b', k, none⟩ = some (.int .u64 (y k)) := by
  by_cases e : b = b'
  · subst e
    rw [hx] at hy
    simp only [Option.some.injEq, Prod.mk.injEq] at hy
    have hs := congrArg Array.size hy.1
    rw [U_size, U_size] at hs
    subst hs
    rw [cel_row (rowOf_hset_self hx), U_get hk, hz, U_inj hy.1 k hk]
  · rw [cel_row ((rowOf_hset_ne _ _ e).trans hy), U_get hk]

/-! numbers as the walk writes them -/
theorem wrap_i64_id {x : Int} (h1 : -9223372036854775808 ≤ x) (h2 : x ≤ 9223372036854775807) : IntKind.i64.wrap x = x := by
  rw [IntKind.wrap_i64]; omega

theorem bop_lss (k : IntKind) (a b : Int) : bop .lss (.int k a) (.int k b) = some (.bool (decide (a < b))) := by simp [bop]
theorem bop_leq (k : IntKind) (a b : Int) : bop .leq (.int k a) (.int k b) = some (.bool (decide (a ≤ b))) := by simp [bop]
theorem bop_gtr (k : IntKind) (a b : Int) : bop .gtr (.int k a) (.int k b) = some (.bool (decide (b < a))) := by simp [bop]
theorem bop_geq (k : IntKind) (a b : Int) : bop .geq (.int k a) (.int k b) = some (.bool (decide (b ≤ a))) := by simp [bop]
theorem bop_eql (k : IntKind) (a b : Int) : bop .eql (.int k a) (.int k b) = some (.bool (a == b)) := by simp [bop]
theorem bop_neq (k : IntKind) (a b : Int) : bop .neq (.int k a) (.int k b) = some (.bool (a != b)) := by simp [bop]
theorem bop_add (k : IntKind) (a b : Int) : bop .add (.int k a) (.int k b) = some (.int k (k.wrap (a + b))) := by simp [bop]
theorem bop_sub (k : IntKind) (a b : Int) : bop .sub (.int k a) (.int k b) = some (.int k (k.wrap (a - b))) := by simp [bop]
theorem bop_mul (k : IntKind) (a b : Int) : bop .mul (.int k a) (.int k b) = some (.int k (k.wrap (a * b))) := by simp [bop]
theorem bop_and (k : IntKind) (a b : Int) : bop .and (.int k a) (.int k b) = some (.int k (bits .and k a b)) := by simp [bop]
theorem bop_or (k : IntKind) (a b : Int) : bop .or (.int k a) (.int k b) = some (.int k (bits .or k a b)) := by simp [bop]
theorem bop_xor (k : IntKind) (a b : Int) : bop .xor (.int k a) (.int k b) = some (.int k (bits .xor k a b)) := by simp [bop]
theorem bop_andNot (k : IntKind) (a b : Int) : bop .andNot (.int k a) (.int k b) = some (.int k (bits .andNot k a b)) := by simp [bop]

theorem bop_rem (k : IntKind) {a b : Int} (h : b ≠ 0) : bop .rem (.int k a) (.int k b) = some (.int k (a.tmod b)) := by simp [bop, h]
theorem bop_quo (k : IntKind) {a b : Int} (h : b ≠ 0) : bop .quo (.int k a) (.int k b) = some (.int k (k.wrap (a.tdiv b))) := by simp [bop, h]
theorem bop_streql (a b : ByteArray) : bop .eql (.string a) (.string b) = some (.bool (a.toList == b.toList)) := rfl

theorem sh_shl {k k' : IntKind} {a b : Int} (h : ¬ b < 0) : sh .shl (.int k a) (.int k' b) = some (.int k (k.wrap (a * 2 ^ (min b.toNat k.bits)))) := by simp [sh, h]
theorem sh_shr {k k' : IntKind} {a b : Int} (h : ¬ b < 0) : sh .shr (.int k a) (.int k' b) = some (.int k (a.fdiv (2 ^ (min b.toNat k.bits)))) := by simp [sh, h]
theorem cast_succ (k : Nat) : ((k + 1 : Nat) : Int) = (k : Int) + 1 := by omega
end Go.Fl
