/- Numbers in memory, and what is left alone. -/
import Derived.Test.YtfakfllmbfjofaaFacts
import Derived.Test.YtfakfllmbfjofaaPlLimbs
namespace Go.Fl
open Go

/-- but for the blocks of B the old ones are as they were -/
def Ch (B : List Nat) (h h' : Hp) : Prop := h.size ≤ h'.size ∧ ∀ i, i < h.size → i ∉ B → h'[i]? = h[i]?

theorem Ch.refl (B : List Nat) (h : Hp) : Ch B h h := ⟨Nat.le_refl _, fun _ _ _ => rfl⟩
theorem Ch.trans {B : List Nat} {a b c : Hp} (h : Ch B a b) (k : Ch B b c) : Ch B a c := ⟨Nat.le_trans h.1 k.1, fun i hi hn => (k.2 i (Nat.lt_of_lt_of_le hi h.1) hn).trans (h.2 i hi hn)⟩
theorem Ch.hset {B : List Nat} {b : Nat} (h : Hp) (c : Array Value) (T : TypeId) (hb : b ∈ B) : Ch B h (hset h b c T) :=
  ⟨by rw [hset_size]; exact Nat.le_refl _, fun i _ hn => hset_get_ne c T (fun e => hn (e ▸ hb))⟩
theorem Ch.push (B : List Nat) (h : Hp) (o : Obj) : Ch B h (h.push o) := ⟨by simp, fun i hi _ => by rw [Array.getElem?_push, if_neg (by omega)]⟩
/-- what is written in new blocks does not count -/
theorem Ch.new {B C : List Nat} {a b : Hp} (h : Ch C a b) (hc : ∀ i, i ∈ C → i ∈ B ∨ a.size ≤ i) : Ch B a b :=
  ⟨h.1, fun i hi hn => h.2 i hi fun hm => (hc i hm).elim hn (fun hge => absurd hi (by omega))⟩
theorem Ch.sub {B C : List Nat} {a b : Hp} (h : Ch B a b) (hs : ∀ i, i ∈ B → i ∈ C) : Ch C a b := ⟨h.1, fun i hi hn => h.2 i hi fun hm => hn (hs i hm)⟩
theorem Ch.row {B : List Nat} {h h' : Hp} (k : Ch B h h') {b : Nat} {r : Array Value × TypeId} (e : rowOf h b = some r) (hb : b ∉ B) : rowOf h' b = some r := by
  have hlt := row_lt e
  unfold rowOf at e ⊢
  rw [k.2 b hlt hb]; exact e
theorem Ch.kp {h h' : Hp} (k : Ch [] h h') : Kp h.size h h' := ⟨k.1, fun i hi => k.2 i hi (by simp)⟩
theorem Kp.ch {h h' : Hp} (B : List Nat) (k : Kp h.size h h') : Ch B h h' := ⟨k.1, fun i hi _ => k.2 i hi⟩

/-- a number in memory: block b holds its slice, block l its limbs -/
structure NA (h : Hp) (b l n : Nat) (x : Nat → Nat) : Prop where
  hb : rowOf h b = some (#[.slice (some ⟨l, 0, none⟩) n 32], 108)
  hl : rowOf h l = some (U x 32, 102)
  hn : n ≤ 32
  hx : ∀ j, x j < 18446744073709551616

theorem NA.ne {h : Hp} {b l n : Nat} {x : Nat → Nat} (e : NA h b l n x) : b ≠ l := fun c => by
  have h1 := e.hb; rw [c, e.hl] at h1
  simp at h1

theorem NA.ch {B : List Nat} {h h' : Hp} {b l n : Nat} {x : Nat → Nat} (e : NA h b l n x) (k : Ch B h h') (h1 : b ∉ B) (h2 : l ∉ B) : NA h' b l n x :=
  ⟨k.row e.hb h1, k.row e.hl h2, e.hn, e.hx⟩
theorem NA.lt1 {h : Hp} {b l n : Nat} {x : Nat → Nat} (e : NA h b l n x) : b < h.size := row_lt e.hb
theorem NA.lt2 {h : Hp} {b l n : Nat} {x : Nat → Nat} (e : NA h b l n x) : l < h.size := row_lt e.hl
/-- its limbs written anew -/
theorem NA.put {h : Hp} {b l n : Nat} {x : Nat → Nat} (e : NA h b l n x) (y : Nat → Nat) (hy : ∀ j, y j < 18446744073709551616) : NA (hset h l (U y 32) 102) b l n y :=
  ⟨(rowOf_hset_ne _ _ (Ne.symm e.ne)).trans e.hb, rowOf_hset_self e.hl, e.hn, hy⟩
/-- its slice written anew -/
theorem NA.len {h : Hp} {b l n : Nat} {x : Nat → Nat} (e : NA h b l n x) (m : Nat) (hm : m ≤ 32) : NA (hset h b #[.slice (some ⟨l, 0, none⟩) m 32] 108) b l m x :=
  ⟨rowOf_hset_self e.hb, (rowOf_hset_ne _ _ e.ne).trans e.hl, hm, e.hx⟩
theorem NA.xeq {h : Hp} {b l n : Nat} {x y : Nat → Nat} (e : NA h b l n x) (hxy : ∀ j, j < 32 → x j = y j) (hy : ∀ j, y j < 18446744073709551616) : NA h b l n y :=
  ⟨e.hb, by rw [e.hl, U_congr hxy], e.hn, hy⟩
/-- two numbers whose slices lie in one block are one -/
theorem NA.same {h : Hp} {b l l' n n' : Nat} {x y : Nat → Nat} (e : NA h b l n x) (e' : NA h b l' n' y) : l = l' ∧ n = n' ∧ ∀ j, j < 32 → x j = y j := by
  have h1 := e.hb; rw [e'.hb] at h1
  simp at h1
  obtain ⟨rfl, rfl⟩ := h1
  have h2 := e.hl; rw [e'.hl] at h2
  simp only [Option.some.injEq, Prod.mk.injEq] at h2
  exact ⟨rfl, rfl, fun j hj => (U_inj h2.1 j hj).symm⟩
end Go.Fl
