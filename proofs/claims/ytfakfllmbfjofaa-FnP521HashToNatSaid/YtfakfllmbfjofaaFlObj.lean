/- New rows: make, append to an empty slice, a slice written out; bytes as a string; what is kept of the old heap. -/
import Derived.Test.YtfakfllmbfjofaaFlMem
import Derived.Laws.AppendOwn
import Derived.Laws.MakeOwn
import Derived.Laws.BytesArg
import Derived.Laws.Cover3
namespace Go.Fl
open Go
set_option linter.unusedSimpArgs false

/-- below block n nothing has turned, and no block has gone -/
def Kp (n : Nat) (h h' : Hp) : Prop := h.size ≤ h'.size ∧ ∀ i, i < n → h'[i]? = h[i]?

theorem Kp.refl (n : Nat) (h : Hp) : Kp n h h := ⟨Nat.le_refl _, fun _ _ => rfl⟩
theorem Kp.trans {n m : Nat} {a b c : Hp} (h : Kp n a b) (k : Kp m b c) (hm : n ≤ m) : Kp n a c := ⟨Nat.le_trans h.1 k.1, fun i hi => (k.2 i (by omega)).trans (h.2 i hi)⟩
theorem Kp.push (h : Hp) (o : Obj) : Kp h.size h (h.push o) := ⟨by simp, fun i hi => by rw [Array.getElem?_push, if_neg (by omega)]⟩
theorem Kp.hset {n b : Nat} (h : Hp) (c : Array Value) (T : TypeId) (hb : n ≤ b) : Kp n h (hset h b c T) := ⟨by rw [hset_size]; exact Nat.le_refl _, fun i hi => hset_get_ne c T (by omega)⟩
theorem Kp.mono {n m : Nat} {a b : Hp} (h : Kp n a b) (hm : m ≤ n) : Kp m a b := ⟨h.1, fun i hi => h.2 i (by omega)⟩
theorem Kp.row {n b : Nat} {h h' : Hp} (k : Kp n h h') (hb : b < n) : rowOf h' b = rowOf h b := by unfold rowOf; rw [k.2 b hb]
theorem Kp.cel {n : Nat} {h h' : Hp} (k : Kp n h h') {a : Addr} (hb : a.block < n) : cel h' a = cel h a := by unfold Go.Fl.cel; rw [k.2 _ hb]
theorem cel_lt {h : Hp} {a : Addr} {v : Value} (e : cel h a = some v) : a.block < h.size := by
  unfold cel at e
  split at e
  · rename_i hb; exact (Array.getElem?_eq_some_iff.1 hb).1
  · cases e
theorem row_lt {h : Hp} {b : Nat} {r : Array Value × TypeId} (e : rowOf h b = some r) : b < h.size := by
  obtain ⟨c, T⟩ := r; exact (Array.getElem?_eq_some_iff.1 (rowOf_eq e)).1
theorem Kp.cel_of {h h' : Hp} (k : Kp h.size h h') {a : Addr} {v : Value} (e : Go.Fl.cel h a = some v) : Go.Fl.cel h' a = some v := by rw [k.cel (cel_lt e)]; exact e
theorem rowOf_push (h : Hp) (c : Array Value) (T : TypeId) : rowOf (h.push (.cells c T (0, 0))) h.size = some (c, T) := rowOf_of (by simp)

/-- a row of numbers of one kind -/
def RI (k : IntKind) (x : Nat → Int) (N : Nat) : Array Value := Array.ofFn fun i : Fin N => .int k (x i.val)
theorem RI_size (k : IntKind) (x : Nat → Int) (N : Nat) : (RI k x N).size = N := by simp [RI]
theorem RI_get {k : IntKind} {x : Nat → Int} {N i : Nat} (h : i < N) : (RI k x N)[i]? = some (.int k (x i)) := by
  unfold RI; rw [Array.getElem?_ofFn, dif_pos h]
theorem RI_out {k : IntKind} {x : Nat → Int} {N i : Nat} (h : ¬ i < N) : (RI k x N)[i]? = none := Array.getElem?_eq_none (by rw [RI_size]; omega)
theorem RI_congr {k : IntKind} {x y : Nat → Int} {N : Nat} (h : ∀ j, j < N → x j = y j) : RI k x N = RI k y N := by
  unfold RI; congr 1; funext i; rw [h i.val i.isLt]
theorem RI_set {k : IntKind} {x : Nat → Int} {N i : Nat} {v : Int} : (RI k x N).setIfInBounds i (.int k v) = RI k (fun j => if j = i then v else x j) N := by
  apply Array.ext_getElem?
  intro j
  rw [Array.getElem?_setIfInBounds, RI_size]
  by_cases hj : j < N
  · rw [RI_get hj]
    by_cases e : i = j
    · subst e; simp [hj, RI_get hj]
    · rw [if_neg e, RI_get hj, if_neg (Ne.symm e)]
  · rw [RI_out hj, RI_out hj]
    split
    · rename_i e; subst e; rw [if_neg hj]
    · rfl
theorem RI_replicate (k : IntKind) (z : Int) (N : Nat) : Array.replicate N (Value.int k z) = RI k (fun _ => z) N := by
  apply Array.ext_getElem?
  intro j
  by_cases hj : j < N
  · rw [RI_get hj]; simp [hj]
  · rw [RI_out hj]; simp [hj]

/-- numbers that can be read where a slice leads -/
def Rd (k : IntKind) (h : Hp) (v : Value) (n : Nat) (x : Nat → Int) : Prop :=
  ∃ a c, v = .slice a n c ∧ n ≤ c ∧ (a = none → n = 0 ∧ c = 0) ∧ (0 < n → ∃ b off, a = some ⟨b, off, none⟩ ∧ ∀ j, j < n → cel h ⟨b, off + j, none⟩ = some (.int k (x j)))

theorem Rd.kp {k : IntKind} {h h' : Hp} {v : Value} {n : Nat} {x : Nat → Int} (r : Rd k h v n x) (kp : Kp h.size h h') : Rd k h' v n x := by
  obtain ⟨a, c, rfl, h1, h2, h3⟩ := r
  refine ⟨a, c, rfl, h1, h2, fun h0 => ?_⟩
  obtain ⟨b, off, h4, h5⟩ := h3 h0
  exact ⟨b, off, h4, fun j hj => kp.cel_of (h5 j hj)⟩

/-- a row of one's own: it begins at block n0 or behind it; in the slots of a slice that is empty nothing is said -/
def Ow (k : IntKind) (n0 : Nat) (h : Hp) (v : Value) (n : Nat) (x : Nat → Int) : Prop :=
  ∃ a c, v = .slice a n c ∧ n ≤ c ∧ (a = none → n = 0 ∧ c = 0) ∧ ∃ b T, n0 ≤ b ∧ hset h b (RI k x c) T = h ∧ (0 < n → a = some ⟨b, 0, none⟩ ∧ rowOf h b = some (RI k x c, T))

theorem Ow.rd {k : IntKind} {n0 : Nat} {h : Hp} {v : Value} {n : Nat} {x : Nat → Int} (r : Ow k n0 h v n x) : Rd k h v n x := by
  obtain ⟨a, c, rfl, h1, h2, b, T, h3, h4, h5⟩ := r
  refine ⟨a, c, rfl, h1, h2, fun h0 => ?_⟩
  obtain ⟨h6, h7⟩ := h5 h0
  exact ⟨b, 0, h6, fun j hj => by rw [cel_row h7, Nat.zero_add, RI_get (by omega)]⟩

theorem hset_out {h : Hp} {b : Nat} (c : Array Value) (T : TypeId) (hb : h.size ≤ b) : hset h b c T = h := by
  unfold hset; exact Array.setIfInBounds_eq_of_size_le hb

theorem Ow.empty {k : IntKind} {n0 : Nat} {h : Hp} {a : Option Addr} {c : Nat} {x : Nat → Int} (hn : n0 ≤ h.size) (ha : a = none → c = 0) : Ow k n0 h (.slice a 0 c) 0 x :=
  ⟨a, c, rfl, Nat.zero_le _, fun e => ⟨rfl, ha e⟩, h.size, 0, hn, hset_out _ _ (Nat.le_refl _), fun h0 => absurd h0 (by omega)⟩

theorem Ow.push {k : IntKind} {n0 : Nat} {h : Hp} {n c : Nat} {x : Nat → Int} {T : TypeId} (hn : n0 ≤ h.size) (hc : n ≤ c) : Ow k n0 (h.push (.cells (RI k x c) T (0, 0))) (.slice (some ⟨h.size, 0, none⟩) n c) n x :=
  ⟨_, c, rfl, hc, fun e => (by cases e), h.size, T, hn, hset_self (rowOf_push _ _ _), fun _ => ⟨rfl, rowOf_push _ _ _⟩⟩

theorem Ow.kp {k : IntKind} {n0 : Nat} {h h' : Hp} {v : Value} {n : Nat} {x : Nat → Int} (r : Ow k n0 h v n x) (kp : Kp h.size h h') : Ow k n0 h' v n x := by
  obtain ⟨a, c, rfl, h1, h2, b, T, h3, h4, h5⟩ := r
  by_cases h0 : 0 < n
  · obtain ⟨h6, h7⟩ := h5 h0
    have h8 : rowOf h' b = some (RI k x c, T) := by rw [kp.row (row_lt h7)]; exact h7
    exact ⟨a, c, rfl, h1, h2, b, T, h3, hset_self h8, fun _ => ⟨h6, h8⟩⟩
  · exact ⟨a, c, rfl, h1, h2, b + h'.size, T, by omega, hset_out _ _ (by omega), fun e => absurd e h0⟩

/-! operations that make memory -/
section ops
variable {P : Program} {w0 : World} {o : Oper} {ρ : Operand → Value} {h : Hp} {R : Value → Hp → Prop}

/-- of a slice's type: its elements' type, their bytes, their zero (elements of one cell) -/
def mki (P : Program) (t : TypeId) : Option (TypeId × Nat × Value) :=
  match P.underlying t with
  | some (.slice e) => match P.info? e with
    | some i => match i.zero with
      | some z => if i.size = 1 ∧ z.cells.size = 1 then some (e, i.bytes, z.cells.getD 0 undef) else none
      | none => none
    | none => none
  | _ => none

theorem mki_spec {t e : TypeId} {by_ : Nat} {z : Value} (hm : mki P t = some (e, by_, z)) :
    ∃ i u, P.underlying t = some (.slice e) ∧ P.info? e = some i ∧ i.zero = some u ∧ i.size = 1 ∧ i.bytes = by_ ∧ u.cells = #[z] := by
  unfold mki at hm
  split at hm
  · rename_i e' he
    split at hm
    · rename_i i hi
      split at hm
      · rename_i u hu
        split at hm
        · rename_i hs
          simp only [Option.some.injEq, Prod.mk.injEq] at hm
          obtain ⟨rfl, rfl, rfl⟩ := hm
          refine ⟨i, u, he, hi, hu, hs.1, rfl, ?_⟩
          obtain ⟨l, hl⟩ : ∃ l, u.cells = l := ⟨_, rfl⟩
          rw [hl] at hs ⊢
          obtain ⟨c⟩ := l
          match c, hs.2 with
          | [y], _ => rfl
        · cases hm
      · cases hm
    · cases hm
  · cases hm

theorem made_one (z : Value) (n : Nat) : madeCells #[z] n = Array.replicate n z := by
  apply Array.ext_getElem?
  intro j
  unfold madeCells
  by_cases hj : j < n <;> simp [hj, Nat.mod_one]

theorem zeroCells_one (z : Value) (n : Nat) : Builtin.zeroCells #[z] n = Array.replicate n z := by
  apply Array.ext_getElem?
  intro j
  unfold Builtin.zeroCells
  by_cases hj : j < n <;> simp [hj, Nat.mod_one]

theorem Wd_alloc (w0 : World) (h : Hp) (k : Nat) (ob : Obj) : (Wd w0 h k).alloc ob = Wd w0 (h.push ob) k := rfl
theorem Wd_drew (w0 : World) (h : Hp) (k : Nat) : (Wd w0 h k).drew = Wd w0 h (k + 1) := rfl

theorem Ro_make {t e : TypeId} {by_ : Nat} {z : Value} {x y : Operand} {kl kc : IntKind} {l c : Int} (ho : o.op = .makeSlice t x y) (hm : mki P t = some (e, by_, z)) (hx : ρ x = .int kl l) (hy : ρ y = .int kc c)
    (h0 : 0 ≤ l) (h1 : l ≤ c) (h2 : (by_ : Int) * c ≤ 281474976710656) (h3 : c ≤ 9223372036854775807)
    (hR : R (.slice (some ⟨h.size, 0, none⟩) l.toNat c.toNat) (h.push (.cells (Array.replicate c.toNat z) e (0, 0)))) : Ro P w0 o ρ h R := by
  intro k
  obtain ⟨i, u, e1, e2, e3, e4, e5, e6⟩ := mki_spec hm
  subst e5
  have hr := run_make (P := P) (Wd w0 h k) t e i u e1 e2 e3 kl kc l c h0 h1 h2 h3
  rw [e4, Nat.mul_one, e6, made_one, Wd_alloc] at hr
  have e : (execOp ρ o).run P (Wd w0 h k) = .ok (.value (.slice (some ⟨h.size, 0, none⟩) l.toNat c.toNat)) (Wd w0 (h.push (.cells (Array.replicate c.toNat z) e (0, 0))) k) := by
    have hr' : (Instr.makeSlice t (.int kl l) (.int kc c)).run P (Wd w0 h k) = .ok (.slice (some ⟨h.size, 0, none⟩) l.toNat c.toNat) (Wd w0 (h.push (.cells (Array.replicate c.toNat z) e (0, 0))) k) := hr
    simp [execOp, ho, hx, hy, hr', Sem.run_bind, Result.andThen]
  rw [e]
  exact ⟨_, _, rfl, hR⟩

/-- append to an empty slice without room: nothing, or a new row -/
theorem Ro_append {t e : TypeId} {by_ : Nat} {q : IntKind} {s x : Operand} {ao : Option Addr} {m : Nat} {xs : Nat → Int} (ho : o.op = .call { callee := .builtin .append, args := #[s, x], argTypes := #[t, t] })
    (hm : mki P t = some (e, by_, .int q 0)) (hs : ρ s = .slice ao 0 0) (hx : Rd q h (ρ x) m xs) (h2 : m * by_ ≤ 140737488355328) (h3 : m ≤ 9223372036854775807)
    (hR0 : m = 0 → R (.slice ao 0 0) h)
    (hR : ∀ c', m ≤ c' → R (.slice (some ⟨h.size, 0, none⟩) m c') (h.push (.cells (RI q (fun j => if j < m then xs j else 0) c') e (0, 0)))) : Ro P w0 o ρ h R := by
  intro k
  obtain ⟨i, u, e1, e2, e3, e4, e5, e6⟩ := mki_spec hm
  subst e5
  obtain ⟨a, c, hx, h5, h6, h7⟩ := hx
  rcases Nat.eq_zero_or_pos m with rfl | hpos
  · have hfc : ∀ w, (Builtin.firstCells 1 0 (.slice a 0 c)).run P w = .ok #[] w := fun w => by
      cases a with
      | none => exact run_firstCells_none _ _ _ _ _
      | some a => exact run_firstCells_some (P := P) w 1 0 a 0 c [] rfl (by simp)
    have e : (execOp ρ o).run P (Wd w0 h k) = .ok (.value (.slice ao 0 0)) (Wd w0 h k) := by
      cases ao <;> simp [execOp, ho, hs, hx, resolve, invoke, builtin, Builtin.append_, run_underlying e1, sizeOf, typeInfo, e2, e4, Builtin.lenOf, hfc, Sem.run_bind, Result.andThen, storeCells, Sem.run_pure]
    rw [e]
    exact ⟨_, _, rfl, hR0 rfl⟩
  · obtain ⟨b, off, rfl, h8⟩ := h7 hpos
    have hnews : ∀ j v, ((List.range m).map fun j => Value.int q (xs j))[j]? = some v → (Wd w0 h k).cell? ((⟨b, off, none⟩ : Addr).add j) = some v := by
      intro j v hj
      rw [add_lit, Wd_cell]
      have hjm : j < m := by
        rcases Nat.lt_or_ge j m with h' | h'
        · exact h'
        · rw [List.getElem?_eq_none (by simpa using h')] at hj; cases hj
      rw [h8 j hjm]
      simp [hjm] at hj
      rw [hj]
    have fin : ∀ c', ((List.range m).map fun j => Value.int q (xs j)).toArray ++ Array.replicate (c' - m) (Value.int q 0) = RI q (fun j => if j < m then xs j else 0) (m + (c' - m)) := by
      intro c'
      apply Array.ext_getElem?
      intro j
      by_cases hj : j < m
      · rw [Array.getElem?_append_left (by simpa using hj), RI_get (by omega), if_pos hj]; simp [hj]
      · rw [Array.getElem?_append_right (by simp; omega)]
        by_cases hj' : j < m + (c' - m)
        · rw [RI_get hj', if_neg hj, Array.getElem?_replicate, if_pos (by simp; omega)]
        · rw [RI_out hj', Array.getElem?_replicate, if_neg (by simp; omega)]
    have key : ∃ c', m ≤ c' ∧ (Builtin.append_ #[t, t] o.type #[.slice ao 0 0, .slice (some ⟨b, off, none⟩) m c]).run P (Wd w0 h k) =
        .ok (.slice (some ⟨h.size, 0, none⟩) m c') (Wd w0 (h.push (.cells (RI q (fun j => if j < m then xs j else 0) c') e (0, 0))) (k + 1)) := by
      have hge := grownCap_ge (Wd w0 h k) m 0 e
      refine ⟨grownCap (Wd w0 h k) m 0 e, hge, ?_⟩
      have f := fin (grownCap (Wd w0 h k) m 0 e)
      rw [show m + (grownCap (Wd w0 h k) m 0 e - m) = grownCap (Wd w0 h k) m 0 e from by omega] at f
      cases ao with
      | none =>
        have hr := run_append_nil (P := P) (Wd w0 h k) t o.type e i u e1 e2 e3 ⟨b, off, none⟩ m c ((List.range m).map fun j => Value.int q (xs j)) (by simp [e4]) hnews hpos (by omega) (by omega)
        rw [e6, zeroCells_one, f, Wd_drew, Wd_alloc] at hr
        exact hr
      | some a0 =>
        have hr := run_append_grow (P := P) (Wd w0 h k) t o.type e i u e1 e2 e3 a0 0 0 [] (by simp) (by simp) ⟨b, off, none⟩ m c ((List.range m).map fun j => Value.int q (xs j)) (by simp [e4]) hnews (by omega) (by omega)
          (growslice_fits (by omega) (by simpa using h2))
        simp only [Nat.zero_add] at hr
        rw [e6, zeroCells_one, Wd_drew, Wd_alloc, show (([] : List Value).toArray ++ ((List.range m).map fun j => Value.int q (xs j)).toArray) = ((List.range m).map fun j => Value.int q (xs j)).toArray from by simp, f] at hr
        exact hr
    obtain ⟨c', h9, hr⟩ := key
    have e : (execOp ρ o).run P (Wd w0 h k) = .ok (.value (.slice (some ⟨h.size, 0, none⟩) m c')) (Wd w0 (h.push (.cells (RI q (fun j => if j < m then xs j else 0) c') e (0, 0))) (k + 1)) := by
      simp [execOp, ho, hs, hx, resolve, invoke, builtin, hr, Sem.run_bind, Result.andThen]
    rw [e]
    exact ⟨_, _, rfl, hR c' h9⟩

/-- a slice written out, of none or one element -/
theorem Ro_build0 {t e : TypeId} {by_ : Nat} {z : Value} (ho : o.op = .buildSlice t 0 #[]) (hm : mki P t = some (e, by_, z))
    (hR : R (.slice (some ⟨h.size, 0, none⟩) 0 0) (h.push (.cells #[] e (0, 0)))) : Ro P w0 o ρ h R := by
  intro k
  obtain ⟨i, u, e1, e2, e3, e4, e5, e6⟩ := mki_spec hm
  have e : (execOp ρ o).run P (Wd w0 h k) = .ok (.value (.slice (some ⟨h.size, 0, none⟩) 0 0)) (Wd w0 (h.push (.cells #[] e (0, 0))) k) := by
    simp [execOp, ho, Instr.buildSlice, run_underlying e1, sizeOf, typeInfo, e2, e4, Instr.fill, newRow, Sem.run_bind, Result.andThen, Array.range_zero', Wd_alloc]
    rfl
  rw [e]
  exact ⟨_, _, rfl, hR⟩

theorem map_set_one (f : Nat → Value) (v : Value) : ((Array.range 1).map f).setIfInBounds 0 v = #[v] := by
  apply Array.ext
  · simp
  · intro i h1 h2
    simp at h1
    subst h1
    simp

theorem Ro_build1 {t e : TypeId} {by_ : Nat} {z : Value} {x : Operand} {q : IntKind} {a : Int} (ho : o.op = .buildSlice t 1 #[(0, x)]) (hm : mki P t = some (e, by_, z)) (hx : ρ x = .int q a)
    (hR : R (.slice (some ⟨h.size, 0, none⟩) 1 1) (h.push (.cells #[.int q a] e (0, 0)))) : Ro P w0 o ρ h R := by
  intro k
  obtain ⟨i, u, e1, e2, e3, e4, e5, e6⟩ := mki_spec hm
  have ec : (Value.int q a).cells = #[Value.int q a] := rfl
  have e : (execOp ρ o).run P (Wd w0 h k) = .ok (.value (.slice (some ⟨h.size, 0, none⟩) 1 1)) (Wd w0 (h.push (.cells #[.int q a] e (0, 0))) k) := by
    simp [execOp, ho, hx, Instr.buildSlice, run_underlying e1, sizeOf, typeInfo, zeroValue, e2, e3, e4, e6, Instr.fill, ec, Array.zipIdx, newRow, Sem.run_bind, Result.andThen]
    exact ⟨rfl, by rw [Wd_alloc, map_set_one]⟩
  rw [e]
  exact ⟨_, _, rfl, hR⟩

/-- bytes as a string -/
def bst (P : Program) (s t : TypeId) : Bool :=
  match P.underlying s with
  | some (.slice e) => (match P.underlying e, P.underlying t with | some (.int .u8), some .string => true | _, _ => false)
  | _ => false

theorem Ro_str {s t : TypeId} {x : Operand} {m : Nat} {xs : Nat → Int} (ho : o.op = .convert s t x) (hb : bst P s t = true) (hx : Rd .u8 h (ρ x) m xs) (hR : R (.string (strOfNums ((List.range m).map xs))) h) : Ro P w0 o ρ h R := by
  intro k
  unfold bst at hb
  split at hb
  · rename_i e e1
    split at hb
    · rename_i e2 e3
      obtain ⟨a, c, hx, h5, h6, h7⟩ := hx
      have key : (convert s t (.slice a m c)).run P (Wd w0 h k) = .ok (.string (strOfNums ((List.range m).map xs))) (Wd w0 h k) := by
        rcases Nat.eq_zero_or_pos m with rfl | hpos
        · cases a with
          | none => rw [run_convert_bytes_nil (P := P) (Wd w0 h k) s e e1 e2 0 c t e3]; rfl
          | some a =>
            rw [run_convert_bytes_string _ s t e _ _ _ e1 e2 e3, run_bytesToString _ a 0 c [] (by have := run_loadCells_list (P := P) (Wd w0 h k) a [] (by simp); simpa using this)]
            rfl
        · obtain ⟨b, off, rfl, h8⟩ := h7 hpos
          refine run_convert_bytes_arg (Wd w0 h k) s e e1 e2 b off m c ((List.range m).map xs) (by simp) (fun i hi => ?_) t e3
          rw [Wd_cell, h8 i hi]
          simp [List.getD, hi]
      have e : (execOp ρ o).run P (Wd w0 h k) = .ok (.value (.string (strOfNums ((List.range m).map xs)))) (Wd w0 h k) := by
        simp [execOp, ho, hx, key, Sem.run_bind, Result.andThen]
      rw [e]
      exact ⟨_, _, rfl, hR⟩
    · cases hb
  · cases hb

/-- a slice held against nil -/
theorem Ro_nil {t t' : TypeId} {x y : Operand} {a : Option Addr} {m c : Nat} (ho : o.op = .binOp .eql t x y t') (hs : isSl P t = true) (hx : ρ x = .slice a m c) (hy : ρ y = .slice none 0 0)
    (hR : R (.bool a.isNone) h) : Ro P w0 o ρ h R := by
  intro k
  unfold isSl at hs
  split at hs
  · rename_i e1
    have e : (execOp ρ o).run P (Wd w0 h k) = .ok (.value (.bool a.isNone)) (Wd w0 h k) := by
      have h1 : (Op.equal t (.slice a m c) (.slice none 0 0)).run P (Wd w0 h k) = .ok a.isNone (Wd w0 h k) := run_equal_slice_nil _ t _ a m c e1
      have h2 : (eqGuard .eql t x y (.slice a m c) (.slice none 0 0)).run P (Wd w0 h k) = .ok () (Wd w0 h k) := rfl
      have h3 : (binOp .eql t (.slice a m c) (.slice none 0 0)).run P (Wd w0 h k) = .ok (.bool a.isNone) (Wd w0 h k) := by
        rw [show binOp .eql t (.slice a m c) (.slice none 0 0) = (do pure (.bool (← Op.equal t (.slice a m c) (.slice none 0 0)))) from rfl]
        simp [Sem.run_bind, h1, Result.andThen]
      simp [execOp, ho, hx, hy, h2, h3, Sem.run_bind, Result.andThen]
    rw [e]
    exact ⟨_, _, rfl, hR⟩
  · cases hs
end ops

section eqs
variable {P : Program} {w0 : World} {n : Nat} {gs : FL × KL} {d : Option Tmp} {ty : TypeId} {p : String} {af : Array Edge} {l : List Oper} {cs : List Nat} {Q : FL → Hp → Prop} {L : FL} {h : Hp}
theorem vc_make (t : TypeId) (x y : Operand) : vc P w0 n gs (⟨d, .makeSlice t x y, ty, p, af, none⟩ :: l) [] Q L h =
    Ro P w0 ⟨d, .makeSlice t x y, ty, p, af, none⟩ (ev L n) h fun v h' => vc P w0 n gs l [] Q (putL d v L) h' := (rfl)
theorem vc_buildSlice (t : TypeId) (m : Nat) (ps : Array (Nat × Operand)) : vc P w0 n gs (⟨d, .buildSlice t m ps, ty, p, af, none⟩ :: l) [] Q L h =
    Ro P w0 ⟨d, .buildSlice t m ps, ty, p, af, none⟩ (ev L n) h fun v h' => vc P w0 n gs l [] Q (putL d v L) h' := (rfl)
theorem vc_append (x y : Operand) (ats : Array TypeId) : vc P w0 n gs (⟨d, .call ⟨.builtin .append, #[x, y], ats⟩, ty, p, af, none⟩ :: l) [] Q L h =
    Ro P w0 ⟨d, .call ⟨.builtin .append, #[x, y], ats⟩, ty, p, af, none⟩ (ev L n) h fun v h' => vc P w0 n gs l [] Q (putL d v L) h' := (rfl)
theorem vf_conv (s t : TypeId) (x : Operand) {go : Value → Hp → Prop} : vf P w0 n gs 2 ⟨d, .convert s t x, ty, p, af, none⟩ L h go = Ro P w0 ⟨d, .convert s t x, ty, p, af, none⟩ (ev L n) h go := (rfl)
theorem vf_bin (op : BinOp) (t t' : TypeId) (x y : Operand) {go : Value → Hp → Prop} : vf P w0 n gs 2 ⟨d, .binOp op t x y t', ty, p, af, none⟩ L h go = Ro P w0 ⟨d, .binOp op t x y t', ty, p, af, none⟩ (ev L n) h go := (rfl)
theorem bop_sl (op : BinOp) (a : Option Addr) (m c : Nat) (y : Value) : bop op (.slice a m c) y = none := by cases y <;> rfl
end eqs
end Go.Fl
