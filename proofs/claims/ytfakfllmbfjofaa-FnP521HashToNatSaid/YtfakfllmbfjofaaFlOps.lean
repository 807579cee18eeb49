/- More operations: clear, copy, max, min, a struct built and put into memory. -/
import Derived.Test.YtfakfllmbfjofaaFlObj
import Derived.Laws.CopyRow
namespace Go.Fl
open Go
set_option linter.unusedSimpArgs false

section ops
variable {P : Program} {w0 : World} {o : Oper} {ρ : Operand → Value} {h : Hp} {R : Value → Hp → Prop}

theorem Wd_setRow {w0 : World} {h : Hp} {k g : Nat} {c c' : Array Value} {T : TypeId} (e : rowOf h g = some (c, T)) : (Wd w0 h k).setRow g c' = Wd w0 (hset h g c' T) k := by
  have hb := rowOf_eq e
  unfold World.setRow Wd hset
  simp only [World.mk.injEq, and_true]
  apply Array.ext_getElem?
  intro i
  rw [Array.getElem?_modify, Array.getElem?_setIfInBounds]
  by_cases hi : g = i
  · subst hi
    obtain ⟨hlt, he⟩ := Array.getElem?_eq_some_iff.1 hb
    simp [hlt, he]
  · simp [hi]

theorem RI_seg (k : IntKind) (x y : Nat → Int) (N o m : Nat) (hm : o + m ≤ N) :
    ((RI k x N).toList.take o ++ ((List.range m).map fun j => Value.int k (y j)) ++ (RI k x N).toList.drop (o + m)).toArray = RI k (fun j => if o ≤ j ∧ j < o + m then y (j - o) else x j) N := by
  apply Array.ext_getElem?
  intro j
  have hl : (RI k x N).toList.length = N := by simp [RI]
  have hx : ∀ i, (RI k x N).toList[i]? = (RI k x N)[i]? := fun i => by rw [Array.getElem?_toList]
  rw [List.getElem?_toArray]
  by_cases h1 : j < o
  · rw [List.append_assoc, List.getElem?_append_left (by simp [hl]; omega), List.getElem?_take_of_lt h1, hx, RI_get (by omega), RI_get (by omega), if_neg (by omega)]
  · by_cases h2 : j < o + m
    · rw [List.getElem?_append_left (by simp [hl]; omega), List.getElem?_append_right (by simp [hl]; omega), RI_get (by omega), if_pos ⟨by omega, h2⟩]
      have e : (List.take o (RI k x N).toList).length = o := by simp [hl]; omega
      rw [e]
      simp [show j - o < m by omega]
    · have e : (List.take o (RI k x N).toList ++ ((List.range m).map fun j => Value.int k (y j))).length = o + m := by simp [hl]; omega
      rw [List.getElem?_append_right (by rw [e]; omega), e, List.getElem?_drop, hx, show o + m + (j - (o + m)) = j by omega]
      by_cases h3 : j < N
      · rw [RI_get h3, RI_get h3, if_neg (by omega)]
      · rw [RI_out h3, RI_out h3]

theorem one_int (k : IntKind) (f : Nat → Int) (m : Nat) : ∀ v ∈ (List.range m).map fun j => Value.int k (f j), v.oneCell' = true := by
  intro v hv
  obtain ⟨j, _, rfl⟩ := List.mem_map.1 hv
  rfl

/-- clear, of a slice that leads into a row of numbers -/
theorem Ro_clear {t e : TypeId} {by_ : Nat} {q : IntKind} {x : Operand} {b off m c N : Nat} {xs : Nat → Int} {T : TypeId} (ho : o.op = .call { callee := .builtin .clear, args := #[x], argTypes := #[t] })
    (hm : mki P t = some (e, by_, .int q 0)) (hx : ρ x = .slice (some ⟨b, off, none⟩) m c) (hr : rowOf h b = some (RI q xs N, T)) (hb : off + m ≤ N)
    (hR : R (.tuple #[]) (hset h b (RI q (fun j => if off ≤ j ∧ j < off + m then 0 else xs j) N) T)) : Ro P w0 o ρ h R := by
  intro k
  obtain ⟨i, u, e1, e2, e3, e4, e5, e6⟩ := mki_spec hm
  have key : (Builtin.clear_ #[t] o.type #[.slice (some ⟨b, off, none⟩) m c]).run P (Wd w0 h k) = .ok (.tuple #[]) (Wd w0 (hset h b (RI q (fun j => if off ≤ j ∧ j < off + m then 0 else xs j) N) T) k) := by
    cases m with
    | zero =>
      have : RI q (fun j => if off ≤ j ∧ j < off + 0 then 0 else xs j) N = RI q xs N := RI_congr fun j _ => if_neg (by omega)
      rw [this, hset_self hr]
      simp [Builtin.clear_, run_underlying e1, Sem.run_bind, Result.andThen, Sem.run_pure]
    | succ m =>
      have hst := run_storeCells_at P b off T ((List.range (m + 1)).map fun j => Value.int q ((fun _ => (0 : Int)) j)) 0 (RI q xs N) (Wd w0 h k) (rowOf_eq hr) (by simp [RI_size]; omega) (one_int q (fun _ => 0) _)
      simp only [Nat.add_zero, List.length_map, List.length_range] at hst
      rw [RI_seg q xs (fun _ => 0) N off (m + 1) hb, Wd_setRow hr] at hst
      have hz : (Builtin.zeroCells u.cells (m + 1)).toList = (List.range (m + 1)).map fun j => Value.int q ((fun _ => (0 : Int)) j) := by
        rw [e6, zeroCells_one]
        simp [List.map_const']
      have hzv : (zeroValue e).run P (Wd w0 h k) = .ok u (Wd w0 h k) := by simp [zeroValue, typeInfo, e2, e3]
      simp only [Builtin.clear_, Sem.run_bind, run_underlying e1, Result.andThen, List.getElem?_toArray, List.getElem?_cons_zero, hzv, hz]
      rw [hst]
      rfl
  have e : (execOp ρ o).run P (Wd w0 h k) = .ok (.value (.tuple #[])) (Wd w0 (hset h b (RI q (fun j => if off ≤ j ∧ j < off + m then 0 else xs j) N) T) k) := by
    simp [execOp, ho, hx, resolve, invoke, builtin, key, Sem.run_bind, Result.andThen]
  rw [e]
  exact ⟨_, _, rfl, hR⟩

/-- copy into a row of numbers -/
theorem Ro_copy {t t' e : TypeId} {by_ : Nat} {z : Value} {q : IntKind} {x y : Operand} {b off m c N s : Nat} {xs ys : Nat → Int} {T : TypeId} (ho : o.op = .call { callee := .builtin .copy, args := #[x, y], argTypes := #[t, t'] })
    (hm : mki P t = some (e, by_, z)) (hx : ρ x = .slice (some ⟨b, off, none⟩) m c) (hr : rowOf h b = some (RI q xs N, T)) (hy : Rd q h (ρ y) s ys) (hb : off + m ≤ N)
    (hR : R (.int .i64 ((min s m : Nat) : Int)) (hset h b (RI q (fun j => if off ≤ j ∧ j < off + min s m then ys (j - off) else xs j) N) T)) : Ro P w0 o ρ h R := by
  intro k
  obtain ⟨i, u, e1, e2, e3, e4, e5, e6⟩ := mki_spec hm
  obtain ⟨a, c', hy, h5, h6, h7⟩ := hy
  have key : (Builtin.copy_ #[t, t'] o.type #[.slice (some ⟨b, off, none⟩) m c, .slice a s c']).run P (Wd w0 h k) =
      .ok (.int .i64 ((min s m : Nat) : Int)) (Wd w0 (hset h b (RI q (fun j => if off ≤ j ∧ j < off + min s m then ys (j - off) else xs j) N) T) k) := by
    rcases Nat.eq_zero_or_pos s with rfl | hpos
    · have : RI q (fun j => if off ≤ j ∧ j < off + min 0 m then ys (j - off) else xs j) N = RI q xs N := RI_congr fun j _ => if_neg (by omega)
      rw [this, hset_self hr]
      have hfc : (Builtin.firstCells 1 0 (.slice a 0 c')).run P (Wd w0 h k) = .ok #[] (Wd w0 h k) := by
        cases a with
        | none => exact run_firstCells_none _ _ _ _ _
        | some a => exact run_firstCells_some (P := P) _ 1 0 a 0 c' [] rfl (by simp)
      simp [Builtin.copy_, run_underlying e1, Builtin.lenOf, sizeOf, typeInfo, e2, e4, hfc, storeCells, Sem.run_bind, Result.andThen, Sem.run_pure, goInt]
    · obtain ⟨b', off', rfl, h8⟩ := h7 hpos
      have hr2 := run_copy_row (P := P) (Wd w0 h k) t t' o.type e b off m c ⟨b', off', none⟩ s c' (RI q xs N) T ((List.range (min s m)).map fun j => Value.int q (ys j)) e1 (by simp [e2, e4]) (rowOf_eq hr) (by simp)
        (fun j v hj => by
          have hjm : j < min s m := by
            rcases Nat.lt_or_ge j (min s m) with h' | h'
            · exact h'
            · rw [List.getElem?_eq_none (by simpa using h')] at hj; cases hj
          rw [add_lit, Wd_cell, h8 j (by omega)]
          rw [List.getElem?_map, List.getElem?_range hjm] at hj
          exact hj) (by simp [RI_size]; omega) (one_int q ys _)
      rw [hr2]
      simp only [List.length_map, List.length_range]
      rw [RI_seg q xs ys N off (min s m) (by omega), Wd_setRow hr]
      rfl
  have e : (execOp ρ o).run P (Wd w0 h k) = .ok (.value (.int .i64 ((min s m : Nat) : Int))) (Wd w0 (hset h b (RI q (fun j => if off ≤ j ∧ j < off + min s m then ys (j - off) else xs j) N) T) k) := by
    simp [execOp, ho, hx, hy, resolve, invoke, builtin, key, Sem.run_bind, Result.andThen]
  rw [e]
  exact ⟨_, _, rfl, hR⟩

theorem Rp_max {x y : Operand} {ats : Array TypeId} {q q' : IntKind} {a b : Int} (ho : o.op = .call { callee := .builtin .max, args := #[x, y], argTypes := ats }) (hx : ρ x = .int q a) (hy : ρ y = .int q' b) :
    Rp P o ρ (.int q (if b > a then b else a)) := by
  intro w
  have := run_max_int2 (P := P) (w := w) ats o.type q q' a b
  simp [execOp, ho, hx, hy, resolve, invoke, builtin, this, Sem.run_bind, Result.andThen]

theorem Rp_maxN {x y : Operand} {ats : Array TypeId} {q q' : IntKind} {a b : Nat} (ho : o.op = .call { callee := .builtin .max, args := #[x, y], argTypes := ats }) (hx : ρ x = .int q (a : Int)) (hy : ρ y = .int q' (b : Int)) :
    Rp P o ρ (.int q ((max a b : Nat) : Int)) := by
  have h1 := Rp_max (P := P) ho hx hy
  have h2 : (if (b : Int) > (a : Int) then (b : Int) else (a : Int)) = ((max a b : Nat) : Int) := by
    split <;> omega
  rw [h2] at h1
  exact h1

theorem set1 (u v : Value) : (#[u] : Array Value).setIfInBounds 0 v = #[v] := rfl

/-- a value built of parts: what that gives is asked of the kernel -/
theorem Ro_buildV {t : TypeId} {ps : Array (Nat × Operand)} {v : Value} (qs : Array (Nat × Value)) (ho : o.op = .build t ps) (hq : (ps.map fun (i, x) => (i, ρ x)) = qs) (hb : ∀ w, (Instr.build t qs).run P w = .ok v w) (hR : R v h) : Ro P w0 o ρ h R := by
  subst hq
  intro k
  have e : (execOp ρ o).run P (Wd w0 h k) = .ok (.value v) (Wd w0 h k) := by
    simp only [execOp, ho, Sem.run_bind, hb, Result.andThen]
    rfl
  rw [e]
  exact ⟨_, _, rfl, hR⟩

theorem Ro_box {t : TypeId} {x : Operand} (ho : o.op = .box t x) (hR : R (.pointer (some ⟨h.size, 0, none⟩)) (h.push (.cells (ρ x).cells t (0, 0)))) : Ro P w0 o ρ h R := by
  intro k
  have e : (execOp ρ o).run P (Wd w0 h k) = .ok (.value (.pointer (some ⟨h.size, 0, none⟩))) (Wd w0 (h.push (.cells (ρ x).cells t (0, 0))) k) := by
    simp [execOp, ho, Instr.box, newVar, newRow, Sem.run_bind, Result.andThen]
    exact ⟨rfl, rfl⟩
  rw [e]
  exact ⟨_, _, rfl, hR⟩
end ops

section eqs
variable {P : Program} {w0 : World} {n : Nat} {gs : FL × KL} {d : Option Tmp} {ty : TypeId} {p : String} {af : Array Edge} {l : List Oper} {cs : List Nat} {Q : FL → Hp → Prop} {L : FL} {h : Hp}
theorem vc_clear2 (x : Operand) (ats : Array TypeId) : vc P w0 n gs (⟨d, .call ⟨.builtin .clear, #[x], ats⟩, ty, p, af, none⟩ :: l) [] Q L h =
    Ro P w0 ⟨d, .call ⟨.builtin .clear, #[x], ats⟩, ty, p, af, none⟩ (ev L n) h fun v h' => vc P w0 n gs l [] Q (putL d v L) h' := (rfl)
theorem vc_clearW (x : Operand) (ats : Array TypeId) : vc P w0 n gs (⟨d, .call ⟨.builtin .clear, #[x], ats⟩, ty, p, af, none⟩ :: l) (2 :: cs) Q L h =
    Ro P w0 ⟨d, .call ⟨.builtin .clear, #[x], ats⟩, ty, p, af, none⟩ (ev L n) h fun v h' => vc P w0 n gs l cs Q (putL d v L) h' := (rfl)
theorem vc_copy2 (x y : Operand) (ats : Array TypeId) : vc P w0 n gs (⟨d, .call ⟨.builtin .copy, #[x, y], ats⟩, ty, p, af, none⟩ :: l) [] Q L h =
    Ro P w0 ⟨d, .call ⟨.builtin .copy, #[x, y], ats⟩, ty, p, af, none⟩ (ev L n) h fun v h' => vc P w0 n gs l [] Q (putL d v L) h' := (rfl)
theorem vc_copyW (x y : Operand) (ats : Array TypeId) : vc P w0 n gs (⟨d, .call ⟨.builtin .copy, #[x, y], ats⟩, ty, p, af, none⟩ :: l) (2 :: cs) Q L h =
    Ro P w0 ⟨d, .call ⟨.builtin .copy, #[x, y], ats⟩, ty, p, af, none⟩ (ev L n) h fun v h' => vc P w0 n gs l cs Q (putL d v L) h' := (rfl)
theorem vc_max0 (x y : Operand) (ats : Array TypeId) : vc P w0 n gs (⟨d, .call ⟨.builtin .max, #[x, y], ats⟩, ty, p, af, none⟩ :: l) (0 :: cs) Q L h =
    ∃ v, Rp P ⟨d, .call ⟨.builtin .max, #[x, y], ats⟩, ty, p, af, none⟩ (ev L n) v ∧ vc P w0 n gs l cs Q (putL d v L) h := (rfl)
theorem vc_build2 (t : TypeId) (ps : Array (Nat × Operand)) : vc P w0 n gs (⟨d, .build t ps, ty, p, af, none⟩ :: l) [] Q L h =
    Ro P w0 ⟨d, .build t ps, ty, p, af, none⟩ (ev L n) h fun v h' => vc P w0 n gs l [] Q (putL d v L) h' := (rfl)
theorem vc_box2 (t : TypeId) (x : Operand) : vc P w0 n gs (⟨d, .box t x, ty, p, af, none⟩ :: l) [] Q L h =
    Ro P w0 ⟨d, .box t x, ty, p, af, none⟩ (ev L n) h fun v h' => vc P w0 n gs l [] Q (putL d v L) h' := (rfl)
end eqs

theorem U_RI (x : Nat → Nat) (N : Nat) : U x N = RI .u64 (fun j => (x j : Int)) N := rfl
theorem RI_U (f : Nat → Int) (x : Nat → Nat) (N : Nat) (e : ∀ j, j < N → f j = (x j : Int)) : RI .u64 f N = U x N := by rw [U_RI]; exact RI_congr e
end Go.Fl
