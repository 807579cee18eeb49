/- Structs and arrays in memory: loads, stores, new variables; slices written out. -/
import Derived.Test.YtfakfllmbfjofaaFlSeal
import Derived.Laws.Tables
import Derived.Laws.Rows
namespace Go.Fl
open Go
set_option linter.unusedSimpArgs false
section ops
variable {P : Program} {w0 : World} {o : Oper} {ρ : Operand → Value} {h : Hp} {R : Value → Hp → Prop}

/-- t is a struct or an array of m cells -/
def rowTy (P : Program) (t : TypeId) (m : Nat) : Bool :=
  (match P.underlying t with | some (.struct _) | some (.array _ _) => true | _ => false) && (P.info? t).map (·.size) == some m

theorem rowTy_spec {t : TypeId} {m : Nat} (h : rowTy P t m = true) : ∃ d, P.underlying t = some d ∧ (match d with | .struct _ | .array _ _ => true | _ => false) = true ∧ (P.info? t).map (·.size) = some m := by
  simp only [rowTy, Bool.and_eq_true, beq_iff_eq] at h
  obtain ⟨h1, h2⟩ := h
  cases hu : P.underlying t with
  | none => rw [hu] at h1; simp at h1
  | some d =>
    refine ⟨d, rfl, ?_, h2⟩
    rw [hu] at h1
    cases d <;> simp_all

theorem Rs_loadrow {t T : TypeId} {x : Operand} {g m : Nat} {cs : Array Value} (ho : o.op = .load t x) (hx : ρ x = .pointer (some ⟨g, 0, none⟩)) (hg : rowOf h g = some (cs, T)) (hT : rowTy P t m = true) (hm : cs.size = m) :
    Rs P w0 o ρ h (.agg cs) := by
  intro k
  subst hm
  obtain ⟨d, hu, hd, hi⟩ := rowTy_spec hT
  have := run_loadVar_row (P := P) (Wd w0 h k) g T t cs (0, 0) d (rowOf_eq hg) hu (by cases d <;> first | rfl | (simp at hd)) hi
  simp only [execOp, ho, hx, Instr.loadAt, Instr.sureAddr, Sem.run_bind, Sem.run_pure, Result.andThen_ok, this]

theorem Ro_of_Rs {v : Value} (hr : Rs P w0 o ρ h v) (hR : R v h) : Ro P w0 o ρ h R := fun k => by
  rw [hr k]; exact ⟨h, k, rfl, hR⟩

theorem Ro_storerow {t T : TypeId} {x y : Operand} {g m : Nat} {cs old : Array Value} (ho : o.op = .store t x y) (hx : ρ x = .pointer (some ⟨g, 0, none⟩)) (hy : ρ y = .agg cs) (hg : rowOf h g = some (old, T)) (hT : rowTy P t m = true) (hm : cs.size = m) (hold : old.size = m)
    (h1 : cs.all (·.oneCell') = true) (hR : R undef (hset h g cs T)) : Ro P w0 o ρ h R := by
  intro k
  subst hm
  obtain ⟨d, hu, hd, hi⟩ := rowTy_spec hT
  have := run_storeVar_row (P := P) (Wd w0 h k) g T t old cs (rowOf_eq hg) hi hold h1
  have e : (execOp ρ o).run P (Wd w0 h k) = .ok .skip (Wd w0 (hset h g cs T) k) ∨ (execOp ρ o).run P (Wd w0 h k) = .ok (.value undef) (Wd w0 (hset h g cs T) k) := by
    simp only [execOp, ho, hx, hy, Instr.storeAt, Instr.sureAddr, Sem.run_bind, Sem.run_pure, Result.andThen_ok, this]
    rw [Wd_setRow hg]
    first | exact .inl rfl | exact .inr rfl
  rcases e with e | e <;> rw [e] <;> exact ⟨_, _, rfl, hR⟩

theorem Ro_alloc {t : TypeId} {cs : Array Value} (ho : o.op = .alloc t) (hz : ((P.info? t).bind (·.zero)).map (·.cells) = some cs) (hR : R (.pointer (some ⟨h.size, 0, none⟩)) (h.push (.cells cs t (0, 0)))) : Ro P w0 o ρ h R := by
  intro k
  cases hi : P.info? t with
  | none => rw [hi] at hz; cases hz
  | some i =>
    rw [hi] at hz
    cases hzz : i.zero with
    | none => rw [Option.bind_some, hzz] at hz; cases hz
    | some z =>
      rw [Option.bind_some, hzz] at hz
      simp only [Option.map_some, Option.some.injEq] at hz
      have e : (execOp ρ o).run P (Wd w0 h k) = .ok (.value (.pointer (some ⟨h.size, 0, none⟩))) (Wd w0 (h.push (.cells cs t (0, 0))) k) := by
        rw [← hz]
        simp [execOp, ho, Instr.alloc, zeroValue, typeInfo, hi, hzz, newVar, newRow, Sem.run_bind, Result.andThen]
        exact ⟨rfl, rfl⟩
      rw [e]
      exact ⟨_, _, rfl, hR⟩

/-- a slice written out -/
theorem Ro_buildL {t e : TypeId} {N : Nat} {ps : Array (Nat × Operand)} (qs : Array (Nat × Value)) {cs : Array Value} (ho : o.op = .buildSlice t N ps) (hq : (ps.map fun (i, x) => (i, ρ x)) = qs)
    (hb : ∀ w : World, (Instr.buildSlice t N qs).run P w = .ok (.slice (some ⟨w.heap.size, 0, none⟩) N N) (w.alloc (.cells cs e (0, 0))))
    (hR : R (.slice (some ⟨h.size, 0, none⟩) N N) (h.push (.cells cs e (0, 0)))) : Ro P w0 o ρ h R := by
  subst hq
  intro k
  have e : (execOp ρ o).run P (Wd w0 h k) = .ok (.value (.slice (some ⟨h.size, 0, none⟩) N N)) (Wd w0 (h.push (.cells cs e (0, 0))) k) := by
    simp only [execOp, ho, Sem.run_bind, hb, Result.andThen]
    rfl
  rw [e]
  exact ⟨_, _, rfl, hR⟩
end ops

section eqs
variable {P : Program} {w0 : World} {n : Nat} {gs : FL × KL} {d : Option Tmp} {ty : TypeId} {p : String} {af : Array Edge} {l : List Oper} {cs : List Nat} {Q : FL → Hp → Prop} {L : FL} {h : Hp}
theorem vc_load5 (t : TypeId) (x : Operand) : vc P w0 n gs (⟨d, .load t x, ty, p, af, none⟩ :: l) (5 :: cs) Q L h =
    ∃ v, (∀ w0 h', keeps gs.2 h h' → Rs P w0 ⟨d, .load t x, ty, p, af, none⟩ (ev L n) h' v) ∧ vc P w0 n gs l cs Q (putL d v L) h := (rfl)
theorem vc_load6 (t : TypeId) (x : Operand) : vc P w0 n gs (⟨d, .load t x, ty, p, af, none⟩ :: l) (6 :: cs) Q L h =
    Ro P w0 ⟨d, .load t x, ty, p, af, none⟩ (ev L n) h fun v h' => vcS P w0 n gs l cs Q (putL d v L) h' := (rfl)
theorem vc_store6 (t : TypeId) (x y : Operand) : vc P w0 n gs (⟨d, .store t x y, ty, p, af, none⟩ :: l) (6 :: cs) Q L h =
    Ro P w0 ⟨d, .store t x y, ty, p, af, none⟩ (ev L n) h fun v h' => vcS P w0 n gs l cs Q (putL d v L) h' := (rfl)
theorem vc_alloc2 (t : TypeId) : vc P w0 n gs (⟨d, .alloc t, ty, p, af, none⟩ :: l) [] Q L h =
    Ro P w0 ⟨d, .alloc t, ty, p, af, none⟩ (ev L n) h fun v h' => vcS P w0 n gs l [] Q (putL d v L) h' := (rfl)
theorem vc_alloc6 (t : TypeId) : vc P w0 n gs (⟨d, .alloc t, ty, p, af, none⟩ :: l) (6 :: cs) Q L h =
    Ro P w0 ⟨d, .alloc t, ty, p, af, none⟩ (ev L n) h fun v h' => vcS P w0 n gs l cs Q (putL d v L) h' := (rfl)
theorem vc_build0 (t : TypeId) (ps : Array (Nat × Operand)) : vc P w0 n gs (⟨d, .build t ps, ty, p, af, none⟩ :: l) (6 :: cs) Q L h =
    Ro P w0 ⟨d, .build t ps, ty, p, af, none⟩ (ev L n) h fun v h' => vcS P w0 n gs l cs Q (putL d v L) h' := (rfl)
theorem vc_buildSlice6 (t : TypeId) (m : Nat) (ps : Array (Nat × Operand)) : vc P w0 n gs (⟨d, .buildSlice t m ps, ty, p, af, none⟩ :: l) (6 :: cs) Q L h =
    Ro P w0 ⟨d, .buildSlice t m ps, ty, p, af, none⟩ (ev L n) h fun v h' => vcS P w0 n gs l cs Q (putL d v L) h' := (rfl)
theorem vc_buildSlice2S (t : TypeId) (m : Nat) (ps : Array (Nat × Operand)) : vc P w0 n gs (⟨d, .buildSlice t m ps, ty, p, af, none⟩ :: l) [] Q L h =
    Ro P w0 ⟨d, .buildSlice t m ps, ty, p, af, none⟩ (ev L n) h fun v h' => vcS P w0 n gs l [] Q (putL d v L) h' := (rfl)
end eqs
end Go.Fl
