/- Regions that draw their order: where each operation is known to be pure, to read alone, or to write, and the operations that wait for none of each other do not meddle, one walk in the order of the text is enough. -/
import Derived.WalkKit
import Derived.Still
namespace Go.Fl
open Go

section mix
variable {P : Program} {S : Array Obj → Prop} {ops : Array Oper} {md : Region.Mode} {c : Nat → Nat}

def uponN (P : Program) (o : Oper) (a : Act) (K : Act → World → Prop) : Result Next → Prop
  | .ok (.value v) w' => K (a.put o.dst v) w'
  | .ok .skip w' => K (a.put o.dst undef) w'
  | .ok (.enter f args) w' => Calls P f args w' fun e w'' => ∃ v, e = .returned v ∧ K (a.put o.dst v) w''
  | _ => False

/-- what a run gives that yields v and leaves the world, but for the count of what has been drawn -/
def quietR (P : Program) (v : Value) (w : World) : Result Next → Prop
  | .ok (.value u) w' => u = v ∧ ∃ k, w' = { w with drawn := k }
  | .ok (.enter f args) w' => Calls P f args w' fun e w'' => e = .returned v ∧ ∃ k, w'' = { w with drawn := k }
  | _ => False

/-- the operation yields v in this world, whatever has been drawn, and leaves it -/
def QuietAt (P : Program) (ops : Array Oper) (w : World) (o : Oper) (v : Value) (a : Act) : Prop :=
  (Region.wanted o (yielded ops a.tmps) = true ∧ ∀ k, quietR P v w ((execOp a.eval o).run P { w with drawn := k })) ∨ (Region.wanted o (yielded ops a.tmps) = false ∧ v = undef)

/-- the operation yields v in each world whose memory S tells of, and leaves it -/
def StableAt (P : Program) (S : Array Obj → Prop) (ops : Array Oper) (o : Oper) (v : Value) (a : Act) : Prop :=
  (Region.wanted o (yielded ops a.tmps) = true ∧ ∀ w : World, S w.heap → (execOp a.eval o).run P w = .ok (.value v) w) ∨ (Region.wanted o (yielded ops a.tmps) = false ∧ v = undef)

/-- of classes 0, 3 and 5 an operation's value is known ahead: of class 0 in whatever world, of classes 3 and 5 in those that S tells of -/
def isD (n : Nat) : Bool := n == 0 || n == 3 || n == 5
def Det (P : Program) (S : Array Obj → Prop) (ops : Array Oper) (n : Nat) (o : Oper) (v : Value) (a : Act) : Prop :=
  if n = 0 then Yields P ops o v a else StableAt P S ops o v a

/-- One operation: of class 0 it yields in whatever world, of classes 3 and 5 in each world that S tells of, of class 1 it yields in this world and leaves it (but for what has been drawn), else it runs; of class 4 it leaves a world that S tells of. -/
def opO (P : Program) (S : Array Obj → Prop) (c : Nat → Nat) (ops : Array Oper) (k : Nat) (o : Oper) (K : Act → World → Prop) (a : Act) (w : World) : Prop :=
  if isD (c k) = true then ∃ v, Det P S ops (c k) o v a ∧ K (a.put o.dst v) w
  else if c k = 1 then ∃ v, QuietAt P ops w o v a ∧ ∀ d, K (a.put o.dst v) { w with drawn := d }
  else if Region.wanted o (yielded ops a.tmps) then uponN P o a (fun a' w' => (c k = 4 → S w'.heap) ∧ K a' w') ((execOp a.eval o).run P w) else K (a.put o.dst undef) w

def opM (P : Program) (S : Array Obj → Prop) (c : Nat → Nat) (ops : Array Oper) (i : Nat) (K : Act → World → Prop) (a : Act) (w : World) : Prop :=
  match ops[i]? with
  | none => K a w
  | some o => opO P S c ops i o K a w

theorem uponN_mono {o : Oper} {a : Act} {K K' : Act → World → Prop} (h : ∀ a w, K a w → K' a w) {r : Result Next} (hh : uponN P o a K r) : uponN P o a K' r := by
  cases r with
  | ok n w' =>
    cases n <;> simp only [uponN] at hh ⊢
    case enter f args => exact hh.mono fun e w'' ⟨v, he, hk⟩ => ⟨v, he, h _ _ hk⟩
    all_goals exact h _ _ hh
  | halt x w' => simp only [uponN] at hh

theorem QuietAt.of_same {o : Oper} {v : Value} {a a' : Act} {w : World} (hy : QuietAt P ops w o v a) (he : execOp a'.eval o = execOp a.eval o)
    (hw : Region.wanted o (yielded ops a'.tmps) = Region.wanted o (yielded ops a.tmps)) : QuietAt P ops w o v a' := by
  unfold QuietAt at *
  rw [he, hw]; exact hy

theorem QuietAt.drawn {o : Oper} {v : Value} {a : Act} {w : World} (d : Nat) (hy : QuietAt P ops w o v a) : QuietAt P ops { w with drawn := d } o v a := hy
theorem QuietAt.undrawn {o : Oper} {v : Value} {a : Act} {w : World} {d : Nat} (hy : QuietAt P ops { w with drawn := d } o v a) : QuietAt P ops w o v a := hy

theorem StableAt.of_same {o : Oper} {v : Value} {a a' : Act} (hy : StableAt P S ops o v a) (he : execOp a'.eval o = execOp a.eval o)
    (hw : Region.wanted o (yielded ops a'.tmps) = Region.wanted o (yielded ops a.tmps)) : StableAt P S ops o v a' := by
  unfold StableAt at *
  rw [he, hw]; exact hy
theorem Det.of_same {n : Nat} {o : Oper} {v : Value} {a a' : Act} (hy : Det P S ops n o v a) (he : execOp a'.eval o = execOp a.eval o)
    (hw : Region.wanted o (yielded ops a'.tmps) = Region.wanted o (yielded ops a.tmps)) : Det P S ops n o v a' := by
  unfold Det at *
  split
  · rename_i h; rw [if_pos h] at hy; exact Yields.of_same hy he hw
  · rename_i h; rw [if_neg h] at hy; exact StableAt.of_same hy he hw

theorem opO_d {k : Nat} {o : Oper} {a : Act} {w : World} {K : Act → World → Prop} (hc : isD (c k) = true) : opO P S c ops k o K a w ↔ ∃ v, Det P S ops (c k) o v a ∧ K (a.put o.dst v) w := by
  unfold opO; rw [if_pos hc]
theorem opO_0 {k : Nat} {o : Oper} {a : Act} {w : World} {K : Act → World → Prop} (hc : c k = 0) : opO P S c ops k o K a w ↔ ∃ v, Yields P ops o v a ∧ K (a.put o.dst v) w := by
  rw [opO_d (by rw [hc]; rfl)]
  simp only [Det, hc, if_true]
theorem opO_1 {k : Nat} {o : Oper} {a : Act} {w : World} {K : Act → World → Prop} (hc : c k = 1) : opO P S c ops k o K a w ↔ ∃ v, QuietAt P ops w o v a ∧ ∀ d, K (a.put o.dst v) { w with drawn := d } := by
  unfold opO; rw [if_neg (by rw [hc]; decide), if_pos hc]
theorem opO_strict {k : Nat} {o : Oper} {a : Act} {w : World} {K : Act → World → Prop} (h0 : isD (c k) = false) (h1 : c k ≠ 1) :
    opO P S c ops k o K a w ↔ if Region.wanted o (yielded ops a.tmps) then uponN P o a (fun a' w' => (c k = 4 → S w'.heap) ∧ K a' w') ((execOp a.eval o).run P w) else K (a.put o.dst undef) w := by
  unfold opO; rw [if_neg (by rw [h0]; simp), if_neg h1]

theorem opO_mono {k : Nat} {o : Oper} {a : Act} {w : World} {K K' : Act → World → Prop} (h : ∀ a w, K a w → K' a w) (hh : opO P S c ops k o K a w) : opO P S c ops k o K' a w := by
  unfold opO at hh ⊢
  split
  · rename_i hc; rw [if_pos hc] at hh; obtain ⟨v, hy, hk⟩ := hh; exact ⟨v, hy, h _ _ hk⟩
  · rename_i hc; rw [if_neg hc] at hh
    split
    · rename_i hc1; rw [if_pos hc1] at hh; obtain ⟨v, hy, hk⟩ := hh; exact ⟨v, hy, fun d => h _ _ (hk d)⟩
    · rename_i hc1; rw [if_neg hc1] at hh
      split
      · rename_i hw; rw [if_pos hw] at hh; exact uponN_mono (fun a w ⟨h1, h2⟩ => ⟨h1, h _ _ h2⟩) hh
      · rename_i hw; rw [if_neg hw] at hh; exact h _ _ hh

/-- the same, and S holds behind the operation where it held ahead of it (but for classes that do not keep it) -/
theorem opO_monoS {k : Nat} {o : Oper} {a : Act} {w : World} {K K' : Act → World → Prop} (hS : S w.heap) (h4 : isD (c k) = true ∨ c k = 1 ∨ c k = 4 ∨ ∀ h, S h) (h : ∀ a w, S w.heap → K a w → K' a w) (hh : opO P S c ops k o K a w) : opO P S c ops k o K' a w := by
  unfold opO at hh ⊢
  split
  · rename_i hc; rw [if_pos hc] at hh; obtain ⟨v, hy, hk⟩ := hh; exact ⟨v, hy, h _ _ hS hk⟩
  · rename_i hc; rw [if_neg hc] at hh
    split
    · rename_i hc1; rw [if_pos hc1] at hh; obtain ⟨v, hy, hk⟩ := hh; exact ⟨v, hy, fun d => h _ _ hS (hk d)⟩
    · rename_i hc1; rw [if_neg hc1] at hh
      split
      · rename_i hw; rw [if_pos hw] at hh
        refine uponN_mono (fun a w ⟨h1, h2⟩ => ⟨h1, h _ _ ?_ h2⟩) hh
        rcases h4 with h4 | h4 | h4 | h4
        · exact absurd h4 hc
        · exact absurd h4 hc1
        · exact h1 h4
        · exact h4 _
      · rename_i hw; rw [if_neg hw] at hh; exact h _ _ hS hh

theorem opM_mono {i : Nat} {a : Act} {w : World} {K K' : Act → World → Prop} (h : ∀ a w, K a w → K' a w) (hh : opM P S c ops i K a w) : opM P S c ops i K' a w := by
  unfold opM at *
  split
  · rename_i e; simp only [e] at hh; exact h _ _ hh
  · rename_i o e; simp only [e] at hh; exact opO_mono h hh

theorem Calls_inh {f : FuncId} {args : Array Value} {w : World} {R : Ending → World → Prop} (h : Calls P f args w R) : ∃ e w', R e w' := by
  obtain ⟨e, w', _, hr, _⟩ := h []
  exact ⟨e, w', hr⟩

theorem uponN_inh {o : Oper} {a : Act} {K : Act → World → Prop} {r : Result Next} (hh : uponN P o a K r) : ∃ v w', K (a.put o.dst v) w' := by
  cases r with
  | ok n w' =>
    cases n <;> simp only [uponN] at hh
    case enter f args => obtain ⟨e, w'', v, _, hk⟩ := Calls_inh hh; exact ⟨v, w'', hk⟩
    all_goals exact ⟨_, _, hh⟩
  | halt x w' => simp only [uponN] at hh

theorem opO_inh {k : Nat} {o : Oper} {a : Act} {w : World} {K : Act → World → Prop} (hh : opO P S c ops k o K a w) : ∃ v w', K (a.put o.dst v) w' := by
  unfold opO at hh
  split at hh
  · obtain ⟨v, _, hk⟩ := hh; exact ⟨v, w, hk⟩
  split at hh
  · obtain ⟨v, _, hk⟩ := hh; exact ⟨v, _, hk 0⟩
  split at hh
  · obtain ⟨v, w', _, h⟩ := uponN_inh hh; exact ⟨v, w', h⟩
  · exact ⟨_, _, hh⟩

theorem opM_inh {i : Nat} {a : Act} {w : World} {K : Act → World → Prop} (hh : opM P S c ops i K a w) : ∃ a' w', K a' w' := by
  unfold opM at hh
  split at hh
  · exact ⟨a, w, hh⟩
  · obtain ⟨v, w', h⟩ := opO_inh hh; exact ⟨_, w', h⟩

theorem Yields_unique {o : Oper} {a : Act} {v u : Value} (w : World) (h : Yields P ops o v a) (h' : Yields P ops o u a) : v = u := by
  rcases h with ⟨h1, h2⟩ | ⟨h1, h2⟩ <;> rcases h' with ⟨h3, h4⟩ | ⟨h3, h4⟩
  · have := (h2 w).symm.trans (h4 w)
    simpa using this
  · rw [h1] at h3; cases h3
  · rw [h1] at h3; cases h3
  · rw [h2, h4]

theorem Det_unique {n : Nat} {o : Oper} {a : Act} {v u : Value} {w : World} (hS : S w.heap) (h : Det P S ops n o v a) (h' : Det P S ops n o u a) : v = u := by
  unfold Det at h h'
  split at h
  · rename_i hn; rw [if_pos hn] at h'; exact Yields_unique w h h'
  · rename_i hn; rw [if_neg hn] at h'
    rcases h with ⟨h1, h2⟩ | ⟨h1, h2⟩ <;> rcases h' with ⟨h3, h4⟩ | ⟨h3, h4⟩
    · have := (h2 w hS).symm.trans (h4 w hS)
      simpa using this
    · rw [h1] at h3; cases h3
    · rw [h1] at h3; cases h3
    · rw [h2, h4]

def compat (c : Nat → Nat) (i j : Nat) : Bool := isD (c i) || isD (c j) || (c i == 1 && c j == 1)

theorem opO_comm {i j : Nat} {oi oj : Oper} {K : Act → World → Prop} {a : Act} {w : World} (hap : oi.apart ops oj = true) (hsi : ∀ cs b, oi.op ≠ .select cs b) (hsj : ∀ cs b, oj.op ≠ .select cs b)
    (hS : S w.heap) (hc : compat c i j = true) 
    (h : opO P S c ops i oi (opO P S c ops j oj K) a w) : opO P S c ops j oj (opO P S c ops i oi K) a w := by
  obtain ⟨h1, h2, h3⟩ := Oper.apart_spec hap
  have ei : ∀ (a : Act) u, execOp (a.put oj.dst u).eval oi = execOp a.eval oi := fun a u => execOp_put oi hsi a oj.dst u h3
  have ej : ∀ (a : Act) u, execOp (a.put oi.dst u).eval oj = execOp a.eval oj := fun a u => execOp_put oj hsj a oi.dst u h1
  have wi : ∀ (a : Act) u, Region.wanted oi (yielded ops (a.put oj.dst u).tmps) = Region.wanted oi (yielded ops a.tmps) := fun a u => wanted_put oi a oj.dst u h3
  have wj : ∀ (a : Act) u, Region.wanted oj (yielded ops (a.put oi.dst u).tmps) = Region.wanted oj (yielded ops a.tmps) := fun a u => wanted_put oj a oi.dst u h1
  have pc : ∀ (a : Act) v u, (a.put oi.dst v).put oj.dst u = (a.put oj.dst u).put oi.dst v := fun a v u => Act.put_comm a v u h2
  simp only [compat, Bool.or_eq_true, beq_iff_eq, Bool.and_eq_true] at hc
  have nd : ∀ n, ¬ isD n = true → isD n = false := fun n h => by simpa using h
  by_cases ci : isD (c i) = true
  · rw [opO_d ci] at h
    obtain ⟨v, hv, h⟩ := h
    by_cases cj0 : isD (c j) = true
    · rw [opO_d cj0] at h ⊢
      obtain ⟨u, hu, hk⟩ := h
      refine ⟨u, hu.of_same (ej a v).symm (wj a v).symm, ?_⟩
      rw [opO_d ci]
      exact ⟨v, hv.of_same (ei a u) (wi a u), by rw [← pc]; exact hk⟩
    by_cases cj1 : c j = 1
    · rw [opO_1 cj1] at h ⊢
      obtain ⟨u, hu, hk⟩ := h
      refine ⟨u, hu.of_same (ej a v).symm (wj a v).symm, fun d => ?_⟩
      rw [opO_d ci]
      exact ⟨v, hv.of_same (ei a u) (wi a u), by rw [← pc]; exact hk d⟩
    · rw [opO_strict (nd _ cj0) cj1] at h ⊢
      rw [wj, ej] at h
      split
      · rename_i hw
        rw [if_pos hw] at h
        generalize (execOp a.eval oj).run P w = r at *
        have fin : ∀ u w', K ((a.put oi.dst v).put oj.dst u) w' → opO P S c ops i oi K (a.put oj.dst u) w' := fun u w' hk => by
          rw [opO_d ci]
          exact ⟨v, hv.of_same (ei a u) (wi a u), by rw [← pc]; exact hk⟩
        cases r with
        | ok n w' =>
          cases n <;> simp only [uponN] at h ⊢
          case enter f args => exact h.mono fun e w'' ⟨u, he, hs, hk⟩ => ⟨u, he, hs, fin u w'' hk⟩
          all_goals exact ⟨h.1, fin _ _ h.2⟩
        | halt x w' => simp only [uponN] at h
      · rename_i hw
        rw [if_neg hw] at h
        rw [opO_d ci]
        exact ⟨v, hv.of_same (ei a undef) (wi a undef), by rw [← pc]; exact h⟩
  by_cases ci1 : c i = 1
  · rw [opO_1 ci1] at h
    obtain ⟨v, hv, h⟩ := h
    have h0 := h w.drawn
    by_cases cj0 : isD (c j) = true
    · rw [opO_d cj0] at h0 ⊢
      obtain ⟨u, hu, _⟩ := h0
      refine ⟨u, hu.of_same (ej a v).symm (wj a v).symm, ?_⟩
      rw [opO_1 ci1]
      refine ⟨v, hv.of_same (ei a u) (wi a u), fun d => ?_⟩
      have hd := h d
      rw [opO_d cj0] at hd
      obtain ⟨u', hu', hk⟩ := hd
      have e := Det_unique hS hu hu'
      subst e
      rw [← pc]; exact hk
    · have cj1 : c j = 1 := by
        rcases hc with (h | h) | h
        · exact absurd h ci
        · exact absurd h cj0
        · exact h.2
      rw [opO_1 cj1] at h0 ⊢
      obtain ⟨u, hu, hk⟩ := h0
      refine ⟨u, (QuietAt.undrawn hu).of_same (ej a v).symm (wj a v).symm, fun d => ?_⟩
      rw [opO_1 ci1]
      exact ⟨v, (hv.drawn d).of_same (ei a u) (wi a u), fun d' => by rw [← pc]; exact hk d'⟩
  · have cj : isD (c j) = true := by
      rcases hc with (h | h) | h
      · exact absurd h ci
      · exact h
      · exact absurd h.1 ci1
    rw [opO_strict (nd _ ci) ci1] at h
    rw [opO_d cj]
    split at h
    · rename_i hw
      generalize hr : (execOp a.eval oi).run P w = r at *
      obtain ⟨v0, w0, _, h0⟩ := uponN_inh h
      rw [opO_d cj] at h0
      obtain ⟨u, hu, _⟩ := h0
      have hua : Det P S ops (c j) oj u a := hu.of_same (ej a v0).symm (wj a v0).symm
      refine ⟨u, hua, ?_⟩
      rw [opO_strict (nd _ ci) ci1, wi, ei, if_pos hw, hr]
      have fin : ∀ v w', opO P S c ops j oj K (a.put oi.dst v) w' → K ((a.put oj.dst u).put oi.dst v) w' := fun v w' hk => by
        rw [opO_d cj] at hk
        obtain ⟨u', hu', hk⟩ := hk
        have : Det P S ops (c j) oj u' a := hu'.of_same (ej a v).symm (wj a v).symm
        have e := Det_unique hS hua this
        subst e
        rw [← pc]; exact hk
      cases r with
      | ok n w' =>
        cases n <;> simp only [uponN] at h ⊢
        case enter f args => exact h.mono fun e w'' ⟨v, he, hs, hk⟩ => ⟨v, he, hs, fin v w'' hk⟩
        all_goals exact ⟨h.1, fin _ _ h.2⟩
      | halt x w' => simp only [uponN] at h
    · rename_i hw
      rw [opO_d cj] at h
      obtain ⟨u, hu, hk⟩ := h
      have hua : Det P S ops (c j) oj u a := hu.of_same (ej a undef).symm (wj a undef).symm
      refine ⟨u, hua, ?_⟩
      rw [opO_strict (nd _ ci) ci1, wi, if_neg hw, ← pc]
      exact hk

def anyM (P : Program) (S : Array Obj → Prop) (c : Nat → Nat) (md : Region.Mode) (ops : Array Oper) (Q : Act → World → Prop) : Nat → Array Bool → Act → World → Prop
  | 0, listed, a, w => Region.ready md ops listed = [] ∧ Q a w
  | fuel + 1, listed, a, w =>
    (Region.ready md ops listed = [] → Q a w) ∧
    ∀ i ∈ Region.ready md ops listed, opM P S c ops i (anyM P S c md ops Q fuel (listed.setIfInBounds i true)) a w

/-- what class an operation may be of where S is to hold behind it -/
def okS (S : Array Obj → Prop) (n : Nat) : Prop := isD n = true ∨ n = 1 ∨ n = 4 ∨ ∀ h, S h

theorem wpOp_of_opM {i : Nat} {a : Act} {w : World} {K : Act → World → Prop} {K' : Act → World → Prop} {Q' : Exit → Act → World → Prop} (hS : S w.heap) (h4 : okS S (c i)) (h : ∀ a w, S w.heap → K a w → K' a w)
    (hh : opM P S c ops i K a w) : wpOp P ops Q' i K' a w := by
  unfold opM at hh
  split at hh
  · rename_i e; unfold wpOp; simp only [e]; exact h _ _ hS hh
  · rename_i o e
    have hh2 := opO_monoS (K' := K') hS h4 h hh
    clear hh
    unfold opO at hh2
    split at hh2
    · obtain ⟨v, hy, hk⟩ := hh2
      unfold Det at hy
      split at hy
      · exact Yields.wpOp e hy hk
      · unfold wpOp
        simp only [e]
        rcases hy with ⟨hw, hq⟩ | ⟨hw, hv⟩
        · rw [if_pos hw]
          refine .inl ?_
          unfold Oper.wp
          rw [hq w hS]
          exact hk
        · rw [if_neg (by rw [hw]; simp)]; subst hv; exact hk
    split at hh2
    · obtain ⟨v, hy, hk⟩ := hh2
      have hk0 : K' (a.put o.dst v) w := hk w.drawn
      unfold wpOp
      simp only [e]
      rcases hy with ⟨hw, hq⟩ | ⟨hw, hv⟩
      · rw [if_pos hw]
        refine .inl ?_
        have hq0 : quietR P v w ((execOp a.eval o).run P w) := hq w.drawn
        unfold Oper.wp
        generalize (execOp a.eval o).run P w = r at *
        cases r with
        | ok n w' =>
          cases n <;> simp only [quietR] at hq0 <;> simp only [Oper.upon]
          case value u => obtain ⟨e1, d, e2⟩ := hq0; subst e1 e2; exact hk d
          case enter f args => exact hq0.mono fun e w'' ⟨he, d, e2⟩ => by subst he e2; exact hk d
        | halt x w' => simp only [quietR] at hq0
      · rw [if_neg (by rw [hw]; simp)]; subst hv; exact hk0
    · unfold wpOp
      simp only [e]
      split
      · rename_i hw
        rw [if_pos hw] at hh2
        refine .inl ?_
        unfold Oper.wp
        generalize (execOp a.eval o).run P w = r at *
        cases r with
        | ok n w' =>
          cases n <;> simp only [uponN] at hh2 <;> simp only [Oper.upon]
          case enter f args => exact hh2.mono fun e w'' ⟨v, he, _, hk⟩ => by subst he; exact hk
          all_goals exact hh2.2
        | halt x w' => simp only [uponN] at hh2
      · rename_i hw; rw [if_neg hw] at hh2; exact hh2

theorem wpAny_of_anyM (h4 : ∀ k, okS S (c k)) {Q : Act → World → Prop} {Q' : Exit → Act → World → Prop} (hQ : ∀ a w, Q a w → Q' .normal a w) : ∀ (fuel : Nat) (listed : Array Bool) (a : Act) (w : World),
    S w.heap → anyM P S c md ops Q fuel listed a w → wpAny P md ops Q' fuel listed a w
  | 0, _, _, _, _, h => ⟨h.1, hQ _ _ h.2⟩
  | fuel + 1, _, _, _, hS, h => ⟨fun h0 => hQ _ _ (h.1 h0), fun i hi => wpOp_of_opM hS (h4 i) (fun a' w' hS' => wpAny_of_anyM h4 hQ fuel _ a' w' hS') (h.2 i hi)⟩

theorem opM_monoS {i : Nat} {a : Act} {w : World} {K K' : Act → World → Prop} (hS : S w.heap) (h4 : okS S (c i)) (h : ∀ a w, S w.heap → K a w → K' a w) (hh : opM P S c ops i K a w) : opM P S c ops i K' a w := by
  unfold opM at *
  split
  · rename_i e; simp only [e] at hh; exact h _ _ hS hh
  · rename_i o e; simp only [e] at hh; exact opO_monoS hS h4 h hh

theorem opM_some {i : Nat} {o : Oper} {K : Act → World → Prop} {a : Act} {w : World} (hi : ops[i]? = some o) : opM P S c ops i K a w = opO P S c ops i o K a w := by
  unfold opM; simp only [hi]

theorem anyM_first (h4 : ∀ k, okS S (c k)) {Q : Act → World → Prop} {i : Nat} {oi : Oper} (D : Nat → Bool) (hi : ops[i]? = some oi) (hsel : ∀ (j : Nat) (o : Oper) cs b, ops[j]? = some o → o.op ≠ .select cs b)
    (hD : ∀ j oj, ops[j]? = some oj → D j = true → ∃ e ∈ oj.after, Region.binds md e = true ∧ (e.on = i ∨ D e.on = true)) :
    ∀ (fuel : Nat) (listed : Array Bool) (a : Act) (w : World), S w.heap →
      (∀ j, listed[j]? = some true → D j = false) →
      (∀ j oj, ops[j]? = some oj → j ≠ i → listed.getD j true = false → D j = false → oi.apart ops oj = true ∧ compat c i j = true) →
      i ∈ Region.ready md ops listed → opM P S c ops i (anyM P S c md ops Q fuel (listed.setIfInBounds i true)) a w → anyM P S c md ops Q (fuel + 1) listed a w := by
  intro fuel
  induction fuel with
  | zero =>
    intro listed a w hS _ _ hr H
    refine ⟨fun h => (by rw [h] at hr; cases hr), fun j hj => ?_⟩
    by_cases hji : j = i
    · subst hji; exact H
    · have := ready_mono hj hji
      obtain ⟨a', w', h'⟩ := opM_inh H
      rw [h'.1] at this
      cases this
  | succ fuel ih =>
    intro listed a w hS hL hfree hr H
    refine ⟨fun h => (by rw [h] at hr; cases hr), fun j hj => ?_⟩
    by_cases hji : j = i
    · subst hji; exact H
    · obtain ⟨hjun, oj, hoj, hall⟩ := mem_ready.1 hj
      have hdj : D j = false := by
        cases hdj : D j with
        | false => rfl
        | true =>
          obtain ⟨e, he, hb, h2⟩ := hD j oj hoj hdj
          have h1 := hall e he hb
          have h0 := (mem_ready.1 hr).1
          have h3 : listed[e.on]? = some true := by
            rcases Nat.lt_or_ge e.on listed.size with h' | h'
            · simp [h'] at h1 ⊢; exact h1
            · simp [Array.getElem?_eq_none h'] at h1
          rcases h2 with h2 | h2
          · rw [h2] at h3
            rcases Nat.lt_or_ge i listed.size with h' | h'
            · simp [h'] at h0 h3; rw [h0] at h3; cases h3
            · simp [Array.getElem?_eq_none h'] at h3
          · rw [hL _ h3] at h2; cases h2
      have hij := hfree j oj hoj hji hjun hdj
      have h1 : opM P S c ops i (opM P S c ops j (anyM P S c md ops Q fuel ((listed.setIfInBounds i true).setIfInBounds j true))) a w :=
        opM_mono (fun a' w' h' => h'.2 j (ready_mono hj hji)) H
      have h2 : opM P S c ops j (opM P S c ops i (anyM P S c md ops Q fuel ((listed.setIfInBounds i true).setIfInBounds j true))) a w := by
        rw [opM_some hoj]
        rw [opM_some hi] at h1
        have e1 : opM P S c ops j (anyM P S c md ops Q fuel ((listed.setIfInBounds i true).setIfInBounds j true)) = opO P S c ops j oj (anyM P S c md ops Q fuel ((listed.setIfInBounds i true).setIfInBounds j true)) := by
          funext a w; exact opM_some hoj
        have e2 : opM P S c ops i (anyM P S c md ops Q fuel ((listed.setIfInBounds i true).setIfInBounds j true)) = opO P S c ops i oi (anyM P S c md ops Q fuel ((listed.setIfInBounds i true).setIfInBounds j true)) := by
          funext a w; exact opM_some hi
        rw [e1] at h1
        rw [e2]
        exact opO_comm hij.1 (fun cs b => hsel i oi cs b hi) (fun cs b => hsel j oj cs b hoj) hS hij.2 h1
      have hL' : ∀ k, (listed.setIfInBounds j true)[k]? = some true → D k = false := fun k hk => by
        by_cases hjk : j = k
        · subst hjk; exact hdj
        · rw [Array.getElem?_setIfInBounds_ne hjk] at hk; exact hL k hk
      have hfree' : ∀ k ok, ops[k]? = some ok → k ≠ i → (listed.setIfInBounds j true).getD k true = false →
          D k = false → oi.apart ops ok = true ∧ compat c i k = true := fun k ok hk hki hun hno => by
        refine hfree k ok hk hki ?_ hno
        by_cases hjk : j = k
        · subst hjk; exact hjun
        · rw [getD_set_ne true hjk] at hun; exact hun
      refine opM_monoS hS (h4 j) (fun a' w' hS' h3 => ih (listed.setIfInBounds j true) a' w' hS' hL' hfree' (ready_mono hr (Ne.symm hji)) ?_) h2
      rw [Array.setIfInBounds_comm _ _ hji]
      exact h3

/-- which operations wait for operation k -/
def depL (md : Region.Mode) (k : Nat) : List Oper → Array Bool → Array Bool
  | [], d => d
  | o :: l, d => depL md k l (d.push (o.after.any fun e => Region.binds md e && (e.on == k || d.getD e.on false)))

def freeM (c : Nat → Nat) (md : Region.Mode) (ops : Array Oper) (listed : Array Bool) (D : Array Bool) (k : Nat) (o : Oper) : Bool :=
  (List.range ops.size).all fun j =>
    (match ops[j]? with
     | some oj => if D.getD j false then (oj.after.any fun e => Region.binds md e && (e.on == k || D.getD e.on false)) && !(listed.getD j false) else
       j == k || listed.getD j true || (o.apart ops oj && compat c k j)
     | none => true)

theorem freeM_dep {listed D : Array Bool} {k : Nat} {o : Oper} (h : freeM c md ops listed D k o = true) :
    ∀ j oj, ops[j]? = some oj → D.getD j false = true → ∃ e ∈ oj.after, Region.binds md e = true ∧ (e.on = k ∨ D.getD e.on false = true) := by
  intro j oj hj hd
  have hlt : j < ops.size := (Array.getElem?_eq_some_iff.1 hj).1
  have h1 := List.all_eq_true.1 h j (List.mem_range.2 hlt)
  simp only [hj, hd, if_true, Bool.and_eq_true] at h1
  obtain ⟨e, he, hb⟩ := Array.any_eq_true'.1 h1.1
  simp only [Bool.and_eq_true, Bool.or_eq_true, beq_iff_eq] at hb
  exact ⟨e, he, hb.1, hb.2⟩

theorem freeM_listed {listed D : Array Bool} {k : Nat} {o : Oper} (h : freeM c md ops listed D k o = true) (hs : listed.size = ops.size) :
    ∀ j, listed[j]? = some true → D.getD j false = false := by
  intro j hl
  have hlt : j < ops.size := by rw [← hs]; exact (Array.getElem?_eq_some_iff.1 hl).1
  have h1 := List.all_eq_true.1 h j (List.mem_range.2 hlt)
  have hj : ops[j]? = some ops[j] := Array.getElem?_eq_getElem hlt
  cases hd : D.getD j false with
  | false => rfl
  | true =>
    simp only [hj, hd, if_true, Bool.and_eq_true, Bool.not_eq_true'] at h1
    have h2 := h1.2
    rw [Array.getD_eq_getD_getElem?, hl] at h2
    cases h2

theorem freeM_spec {listed D : Array Bool} {k : Nat} {o : Oper} (h : freeM c md ops listed D k o = true) :
    ∀ j oj, ops[j]? = some oj → j ≠ k → listed.getD j true = false → D.getD j false = false → o.apart ops oj = true ∧ compat c k j = true := by
  intro j oj hj hne hun hno
  have hlt : j < ops.size := (Array.getElem?_eq_some_iff.1 hj).1
  have h1 := List.all_eq_true.1 h j (List.mem_range.2 hlt)
  simp only [hj, hno, Bool.false_eq_true, if_false, Bool.or_eq_true, beq_iff_eq, Bool.and_eq_true] at h1
  rcases h1 with (h1 | h1) | h1
  · exact absurd h1 hne
  · rw [hun] at h1; cases h1
  · exact h1

def lexFromM (c : Nat → Nat) (md : Region.Mode) (ops : Array Oper) : List Oper → Nat → Array Bool → Bool
  | [], _, listed => (Region.ready md ops listed).isEmpty
  | o :: l, k, listed => (Region.ready md ops listed).contains k && freeM c md ops listed (depL md k ops.toList #[]) k o && lexFromM c md ops l (k + 1) (listed.setIfInBounds k true)

def lexM (c : Nat → Nat) (ops : List Oper) : Bool := Region.noSelect ops.toArray && lexFromM c .any ops.toArray ops 0 (Array.replicate ops.toArray.size false)

/-- The walk in the order of the text. -/
def mix (P : Program) (S : Array Obj → Prop) (c : Nat → Nat) (ops : Array Oper) (Q : Act → World → Prop) : Nat → List Oper → Act → World → Prop
  | _, [], a, w => Q a w
  | k, o :: l, a, w => opO P S c ops k o (mix P S c ops Q (k + 1) l) a w

theorem anyM_lex (h4 : ∀ k, okS S (c k)) {Q : Act → World → Prop} (hs : Region.noSelect ops = true) : ∀ (l : List Oper) (k : Nat) (listed : Array Bool) (a : Act) (w : World), S w.heap → listed.size = ops.size → (∀ j, l[j]? = ops[k + j]?) →
    lexFromM c md ops l k listed = true → mix P S c ops Q k l a w → anyM P S c md ops Q l.length listed a w
  | [], _, _, _, _, _, _, _, hB, h => ⟨by simpa [lexFromM] using hB, h⟩
  | o :: l, k, listed, a, w, hS, hsz, hl, hB, h => by
    have h0 : ops[k]? = some o := by simpa using (hl 0).symm
    simp only [lexFromM, Bool.and_eq_true] at hB
    obtain ⟨⟨hr, hf⟩, hB'⟩ := hB
    refine anyM_first h4 (fun j => (depL md k ops.toList #[]).getD j false) h0 (Region.noSelect_spec hs) (freeM_dep hf) l.length listed a w hS (freeM_listed hf hsz) (freeM_spec hf) (by simpa using hr) ?_
    rw [opM_some h0]
    exact opO_monoS hS (h4 k) (fun a' w' hS' h' => anyM_lex h4 hs l (k + 1) _ a' w' hS' (by simpa using hsz) (fun j => by have := hl (j + 1); simpa [Nat.add_assoc, Nat.add_comm 1 j] using this) hB' h') h

theorem wp_draw {id : Nat} {l : List Oper} {Q : Exit → Act → World → Prop} {a : Act} {w : World} (c : Nat → Nat) (hm : P.follows .mixedOrders = true) (hB : lexM c l = true)
    (h : mix P (fun _ => True) c l.toArray (Q .normal) 0 l a { w with drawn := w.drawn + 1 }) : (Code.region id l.toArray true).wp P Q a w := by
  simp only [lexM, Bool.and_eq_true] at hB
  refine wp_region_any hm (wpAny_of_anyM (S := fun _ => True) (c := c) (fun _ => .inr (.inr (.inr fun _ => trivial))) (Q := Q .normal) (fun _ _ h => h) _ _ _ _ trivial ?_)
  have := anyM_lex (S := fun _ => True) (md := .any) (fun _ => .inr (.inr (.inr fun _ => trivial))) hB.1 l 0 (Array.replicate l.toArray.size false) a { w with drawn := w.drawn + 1 } trivial (by simp) (by simp) (by simpa using hB.2) h
  simpa using this

/-- An order in which a region's operations are walked; where two operations do not commute, both orders of them. -/
inductive Plan where
  | nil : Plan
  | one (i : Nat) (p : Plan) : Plan
  | two (i j : Nat) (p q : Plan) : Plan

def planOk (c : Nat → Nat) (md : Region.Mode) (ops : Array Oper) : Plan → Array Bool → Bool
  | .nil, listed => (Region.ready md ops listed).isEmpty
  | .one i p, listed => match ops[i]? with
    | some o => (Region.ready md ops listed).contains i && freeM c md ops listed (depL md i ops.toList #[]) i o && planOk c md ops p (listed.setIfInBounds i true)
    | none => false
  | .two i j p q, listed => !(Region.ready md ops listed).isEmpty && (Region.ready md ops listed).all (fun k => k == i || k == j) && planOk c md ops p (listed.setIfInBounds i true) && planOk c md ops q (listed.setIfInBounds j true)

def planDepth : Plan → Nat
  | .nil => 0
  | .one _ p => planDepth p + 1
  | .two _ _ p q => max (planDepth p) (planDepth q) + 1

/-- The walk in the order of a plan. -/
def mixP (P : Program) (S : Array Obj → Prop) (c : Nat → Nat) (ops : Array Oper) (Q : Act → World → Prop) : Plan → Act → World → Prop
  | .nil, a, w => Q a w
  | .one i p, a, w => opM P S c ops i (mixP P S c ops Q p) a w
  | .two i j p q, a, w => opM P S c ops i (mixP P S c ops Q p) a w ∧ opM P S c ops j (mixP P S c ops Q q) a w

theorem anyM_plan (h4 : ∀ k, okS S (c k)) {Q : Act → World → Prop} (hs : Region.noSelect ops = true) : ∀ (p : Plan) (fuel : Nat) (listed : Array Bool) (a : Act) (w : World), planDepth p ≤ fuel → S w.heap → listed.size = ops.size →
    planOk c md ops p listed = true → mixP P S c ops Q p a w → anyM P S c md ops Q fuel listed a w
  | .nil, fuel, listed, a, w, _, _, _, hB, h => by
    have hr : Region.ready md ops listed = [] := by simpa [planOk] using hB
    cases fuel with
    | zero => exact ⟨hr, h⟩
    | succ fuel => exact ⟨fun _ => h, fun i hi => by rw [hr] at hi; cases hi⟩
  | .one i p, fuel, listed, a, w, hf, hS, hsz, hB, h => by
    obtain ⟨fuel, rfl⟩ : ∃ g, fuel = g + 1 := ⟨fuel - 1, by simp only [planDepth] at hf; omega⟩
    simp only [planOk] at hB
    split at hB
    · rename_i o h0
      simp only [Bool.and_eq_true] at hB
      obtain ⟨⟨hr, hfr⟩, hB'⟩ := hB
      refine anyM_first h4 (fun j => (depL md i ops.toList #[]).getD j false) h0 (Region.noSelect_spec hs) (freeM_dep hfr) fuel listed a w hS (freeM_listed hfr hsz) (freeM_spec hfr) (by simpa using hr) ?_
      exact opM_monoS hS (h4 i) (fun a' w' hS' h' => anyM_plan h4 hs p fuel _ a' w' (by simp only [planDepth] at hf; omega) hS' (by simpa using hsz) hB' h') h
    · cases hB
  | .two i j p q, fuel, listed, a, w, hf, hS, hsz, hB, h => by
    obtain ⟨fuel, rfl⟩ : ∃ g, fuel = g + 1 := ⟨fuel - 1, by simp only [planDepth] at hf; omega⟩
    simp only [planOk, Bool.and_eq_true] at hB
    obtain ⟨⟨⟨hne, hr⟩, hp⟩, hq⟩ := hB
    simp only [planDepth] at hf
    have hi := opM_monoS hS (h4 i) (fun a' w' hS' h' => anyM_plan h4 hs p fuel (listed.setIfInBounds i true) a' w' (by omega) hS' (by simpa using hsz) hp h') h.1
    have hj := opM_monoS hS (h4 j) (fun a' w' hS' h' => anyM_plan h4 hs q fuel (listed.setIfInBounds j true) a' w' (by omega) hS' (by simpa using hsz) hq h') h.2
    refine ⟨fun h0 => ?_, fun k hk => ?_⟩
    · rw [h0] at hne; cases hne
    · have := List.all_eq_true.1 hr k hk
      simp only [Bool.or_eq_true, beq_iff_eq] at this
      rcases this with rfl | rfl
      · exact hi
      · exact hj

theorem wpList_of_mix {Q : Exit → Act → World → Prop} : ∀ (l : List Oper) (k : Nat) (a : Act) (w : World), (∀ j, l[j]? = ops[k + j]?) →
    mix P (fun _ => True) c ops (Q .normal) k l a w → wpList P ops Q l a w
  | [], _, _, _, _, h => h
  | o :: l, k, a, w, hl, h => by
    have h0 : ops[k]? = some o := by simpa using (hl 0).symm
    have h1 : opM P (fun _ => True) c ops k (wpList P ops Q l) a w := by
      rw [opM_some h0]
      exact opO_mono (fun a' w' h' => wpList_of_mix l (k + 1) a' w' (fun j => by have := hl (j + 1); simpa [Nat.add_assoc, Nat.add_comm 1 j] using this) h') h
    have h2 := wpOp_of_opM (S := fun _ => True) (Q' := Q) trivial (.inr (.inr (.inr fun _ => trivial))) (fun _ _ _ h => h) h1
    unfold wpOp at h2
    simp only [h0] at h2
    unfold wpList
    exact h2

theorem wp_plain {id : Nat} {l : List Oper} {Q : Exit → Act → World → Prop} {a : Act} {w : World} (c : Nat → Nat)
    (h : mix P (fun _ => True) c l.toArray (Q .normal) 0 l a w) : (Code.region id l.toArray false).wp P Q a w :=
  wp_region_lit (wpList_of_mix l 0 a w (by simp) h)

/-- a region that draws its order, walked by a plan -/
theorem wp_plan {id : Nat} {l : List Oper} {Q : Exit → Act → World → Prop} {a : Act} {w : World} (c : Nat → Nat) (p : Plan) (h4 : ∀ k, okS S (c k)) (hm : P.follows .mixedOrders = true) (hs : Region.noSelect l.toArray = true)
    (hd : planDepth p ≤ l.length) (hB : planOk c .any l.toArray p (Array.replicate l.toArray.size false) = true) (hS : S w.heap)
    (h : mixP P S c l.toArray (Q .normal) p a { w with drawn := w.drawn + 1 }) : (Code.region id l.toArray true).wp P Q a w := by
  refine wp_region_any hm (wpAny_of_anyM (S := S) (c := c) h4 (Q := Q .normal) (fun _ _ h => h) _ _ _ _ hS ?_)
  exact anyM_plan (md := .any) h4 hs p _ _ a { w with drawn := w.drawn + 1 } (by simpa using hd) hS (by simp) hB h
end mix
end Go.Fl
