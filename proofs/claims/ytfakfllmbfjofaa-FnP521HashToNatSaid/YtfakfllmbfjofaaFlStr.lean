/- Strings: their range, their bytes, their length. -/
import Derived.Test.YtfakfllmbfjofaaFlRow
import Derived.Laws.RangeString
import Derived.Laws.Strings
namespace Go.Fl
open Go
set_option linter.unusedSimpArgs false
section ops
variable {P : Program} {w0 : World} {o : Oper} {ρ : Operand → Value} {h : Hp} {R : Value → Hp → Prop}

theorem run_next_str (w : World) (b : Nat) (s : ByteArray) (pos : Nat) (ty : TypeId) (hb : w.heap[b]? = some (.stringIter s pos)) (h : pos < s.size) (ha : (s[pos]'h).toNat < 128) :
    (Instr.next (.pointer (some ⟨b, 0, none⟩)) true ty).run P w = .ok (.tuple #[.bool true, .int .i64 pos, .int .i32 (s[pos]'h).toNat]) { w with heap := w.heap.setIfInBounds b (.stringIter s (pos + 1)) } := by
  have hlt : b < w.heap.size := (Array.getElem?_eq_some_iff.1 hb).1
  simp only [Instr.next, getObj, setObj, Sem.run_bind, Sem.run, hb, Result.andThen, h, if_true, decode_ascii s pos h ha]
  simp [goInt, Sem.run, hb, hlt]

theorem run_next_str_end (w : World) (b : Nat) (s : ByteArray) (pos : Nat) (ty : TypeId) (hb : w.heap[b]? = some (.stringIter s pos)) (h : ¬ pos < s.size) :
    (Instr.next (.pointer (some ⟨b, 0, none⟩)) true ty).run P w = .ok (.tuple #[.bool false]) w := by
  simp [Instr.next, getObj, Sem.run, hb, h]

theorem Ro_range {t : TypeId} {x : Operand} {s : ByteArray} (ho : o.op = .range t x) (hx : ρ x = .string s) (ht : P.underlying t = some .string) (hR : R (.pointer (some ⟨h.size, 0, none⟩)) (h.push (.stringIter s 0))) : Ro P w0 o ρ h R := by
  intro k
  have e : (execOp ρ o).run P (Wd w0 h k) = .ok (.value (.pointer (some ⟨h.size, 0, none⟩))) (Wd w0 (h.push (.stringIter s 0)) k) := by
    have := run_range_string (P := P) (Wd w0 h k) t s ht
    simp only [execOp, ho, hx, Sem.run_bind, this, Result.andThen]
    rfl
  rw [e]
  exact ⟨_, _, rfl, hR⟩

theorem Ro_next {it : Operand} {s : ByteArray} {b pos : Nat} (ho : o.op = .next it true) (hx : ρ it = .pointer (some ⟨b, 0, none⟩)) (hb : h[b]? = some (.stringIter s pos)) (hp : pos < s.size) (ha : (s[pos]'hp).toNat < 128)
    (hR : R (.tuple #[.bool true, .int .i64 pos, .int .i32 (s[pos]'hp).toNat]) (h.setIfInBounds b (.stringIter s (pos + 1)))) : Ro P w0 o ρ h R := by
  intro k
  have e : (execOp ρ o).run P (Wd w0 h k) = .ok (.value (.tuple #[.bool true, .int .i64 pos, .int .i32 (s[pos]'hp).toNat])) (Wd w0 (h.setIfInBounds b (.stringIter s (pos + 1))) k) := by
    have := run_next_str (P := P) (Wd w0 h k) b s pos o.type hb hp ha
    simp only [execOp, ho, hx, Sem.run_bind, this, Result.andThen]
    rfl
  rw [e]
  exact ⟨_, _, rfl, hR⟩

theorem Ro_next_end {it : Operand} {s : ByteArray} {b pos : Nat} (ho : o.op = .next it true) (hx : ρ it = .pointer (some ⟨b, 0, none⟩)) (hb : h[b]? = some (.stringIter s pos)) (hp : ¬ pos < s.size)
    (hR : R (.tuple #[.bool false]) h) : Ro P w0 o ρ h R := by
  intro k
  have e : (execOp ρ o).run P (Wd w0 h k) = .ok (.value (.tuple #[.bool false])) (Wd w0 h k) := by
    have := run_next_str_end (P := P) (Wd w0 h k) b s pos o.type hb hp
    simp only [execOp, ho, hx, Sem.run_bind, this, Result.andThen]
    rfl
  rw [e]
  exact ⟨_, _, rfl, hR⟩

theorem Ro_index {t : TypeId} {x y : Operand} {s : ByteArray} {i : Nat} {kk : IntKind} (ho : o.op = .index t x y) (hx : ρ x = .string s) (hy : ρ y = .int kk (i : Int)) (ht : P.underlying t = some .string) (hi : i < s.size)
    (hR : R (.int .u8 (s[i]'hi).toNat) h) : Ro P w0 o ρ h R := by
  intro k
  have e : (execOp ρ o).run P (Wd w0 h k) = .ok (.value (.int .u8 (s[i]'hi).toNat)) (Wd w0 h k) := by
    have h2 := run_index_string (P := P) (Wd w0 h k) t s kk (i : Int) ht
    rw [dif_pos ⟨by omega, by omega⟩] at h2
    simp only [Int.toNat_natCast] at h2
    simp only [execOp, ho, hx, hy, Sem.run_bind, h2, Result.andThen]
    rfl
  rw [e]
  exact ⟨_, _, rfl, hR⟩

theorem Ro_lenstr {t : TypeId} {x : Operand} {s : ByteArray} (ho : o.op = .call { callee := .builtin .len, args := #[x], argTypes := #[t] }) (hx : ρ x = .string s) (ht : P.underlying t = some .string) (hR : R (.int .i64 (s.size : Int)) h) : Ro P w0 o ρ h R := by
  intro k
  have := run_len_string (P := P) (Wd w0 h k) t o.type s ht
  have e : (execOp ρ o).run P (Wd w0 h k) = .ok (.value (.int .i64 (s.size : Int))) (Wd w0 h k) := by
    simp [execOp, ho, hx, resolve, invoke, builtin, this, Sem.run_bind, Result.andThen, goInt]
  rw [e]
  exact ⟨_, _, rfl, hR⟩
end ops
section eqs
variable {P : Program} {w0 : World} {n : Nat} {gs : FL × KL} {d : Option Tmp} {ty : TypeId} {p : String} {af : Array Edge} {l : List Oper} {cs : List Nat} {Q : FL → Hp → Prop} {L : FL} {h : Hp}
theorem vc_range2 (t : TypeId) (x : Operand) : vc P w0 n gs (⟨d, .range t x, ty, p, af, none⟩ :: l) [] Q L h =
    Ro P w0 ⟨d, .range t x, ty, p, af, none⟩ (ev L n) h fun v h' => vcS P w0 n gs l [] Q (putL d v L) h' := (rfl)
theorem vc_next2 (x : Operand) (b : Bool) : vc P w0 n gs (⟨d, .next x b, ty, p, af, none⟩ :: l) [] Q L h =
    Ro P w0 ⟨d, .next x b, ty, p, af, none⟩ (ev L n) h fun v h' => vcS P w0 n gs l [] Q (putL d v L) h' := (rfl)
theorem vc_index2 (t : TypeId) (x y : Operand) : vc P w0 n gs (⟨d, .index t x y, ty, p, af, none⟩ :: l) [] Q L h =
    Ro P w0 ⟨d, .index t x y, ty, p, af, none⟩ (ev L n) h fun v h' => vcS P w0 n gs l [] Q (putL d v L) h' := (rfl)
theorem vf_call2 (b : Builtin) (args : Array Operand) (ats : Array TypeId) {go : Value → Hp → Prop} : vf P w0 n gs 2 ⟨d, .call ⟨.builtin b, args, ats⟩, ty, p, af, none⟩ L h go =
    Ro P w0 ⟨d, .call ⟨.builtin b, args, ats⟩, ty, p, af, none⟩ (ev L n) h go := (rfl)
end eqs
end Go.Fl
