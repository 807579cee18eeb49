/- Regions that draw their order: where each operation is known to be pure, to read alone, or to write, and the operations that wait for none of each other do not meddle, one walk in the order of the text is enough. -/
import Derived.WalkKit
import Derived.Still
namespace Go.Fl
open Go

section mix
variable {P : Program} {ops : Array Oper} {md : Region.Mode} {c : Nat → Nat}

def uponN (P : Program) (o : Oper) (a : Act) (K : Act → World → Prop) : Result Next → Prop
  | .ok (.value v) w' => K (a.put o.dst v) w'
  | .ok .skip w' => K (a.put o.dst undef) w'
  | .ok (.enter f args) w' => Calls P f args w' fun e w'' => ∃ v, e = .returned v ∧ K (a.put o.dst v) w''
  | _ => False

/-- One operation: of class 0 it yields in whatever world, of class 1 it yields in this world and leaves it, else it runs. -/
def opO (P : Program) (c : Nat → Nat) (ops : Array Oper) (k : Nat) (o : Oper) (K : Act → World → Prop) (a : Act) (w : World) : Prop :=
  match c k with
  | 0 => ∃ v, Yields P ops o v a ∧ K (a.put o.dst v) w
  | 1 => ∃ v, YieldsAt P ops w o v a ∧ K (a.put o.dst v) w
  | _ => if Region.wanted o (yielded ops a.tmps) then uponN P o a K ((execOp a.eval o).run P w) else K (a.put o.dst undef) w

def opM (P : Program) (c : Nat → Nat) (ops : Array Oper) (i : Nat) (K : Act → World → Prop) (a : Act) (w : World) : Prop :=
  match ops[i]? with
  | none => K a w
  | some o => opO P c ops i o K a w

theorem uponN_mono {o : Oper} {a : Act} {K K' : Act → World → Prop} (h : ∀ a w, K a w → K' a w) {r : Result Next} (hh : uponN P o a K r) : uponN P o a K' r := by
  cases r with
  | ok n w' =>
    cases n <;> simp only [uponN] at hh ⊢
    case enter f args => exact hh.mono fun e w'' ⟨v, he, hk⟩ => ⟨v, he, h _ _ hk⟩
    all_goals exact h _ _ hh
  | halt x w' => simp only [uponN] at hh

/-- Evidence of classes 0 and 1 in one word. -/
def Ev (P : Program) (c : Nat → Nat) (ops : Array Oper) (k : Nat) (o : Oper) (v : Value) (a : Act) (w : World) : Prop :=
  match c k with
  | 0 => Yields P ops o v a
  | _ => YieldsAt P ops w o v a

theorem Ev.of_same {k : Nat} {o : Oper} {v : Value} {a a' : Act} {w : World} (hy : Ev P c ops k o v a w) (he : execOp a'.eval o = execOp a.eval o)
    (hw : Region.wanted o (yielded ops a'.tmps) = Region.wanted o (yielded ops a.tmps)) : Ev P c ops k o v a' w := by
  unfold Ev at *
  split
  · rename_i e; simp only [e] at hy; exact Yields.of_same hy he hw
  · split at hy
    · rename_i h0 _ e; exact absurd e h0
    · exact YieldsAt.of_same hy he hw

theorem opO_ev {k : Nat} {o : Oper} {a : Act} {w : World} {K : Act → World → Prop} (hc : c k = 0 ∨ c k = 1) :
    opO P c ops k o K a w ↔ ∃ v, Ev P c ops k o v a w ∧ K (a.put o.dst v) w := by
  unfold opO Ev
  rcases hc with h | h <;> simp only [h]

theorem opO_strict {k : Nat} {o : Oper} {a : Act} {w : World} {K : Act → World → Prop} (h0 : c k ≠ 0) (h1 : c k ≠ 1) :
    opO P c ops k o K a w ↔ if Region.wanted o (yielded ops a.tmps) then uponN P o a K ((execOp a.eval o).run P w) else K (a.put o.dst undef) w := by
  unfold opO
  split
  · contradiction
  · contradiction
  · exact Iff.rfl

theorem opO_mono {k : Nat} {o : Oper} {a : Act} {w : World} {K K' : Act → World → Prop} (h : ∀ a w, K a w → K' a w) (hh : opO P c ops k o K a w) : opO P c ops k o K' a w := by
  by_cases hc : c k = 0 ∨ c k = 1
  · rw [opO_ev hc] at hh ⊢
    obtain ⟨v, hy, hk⟩ := hh
    exact ⟨v, hy, h _ _ hk⟩
  · rw [opO_strict (by omega) (by omega)] at hh ⊢
    split
    · rename_i hw; rw [if_pos hw] at hh; exact uponN_mono h hh
    · rename_i hw; rw [if_neg hw] at hh; exact h _ _ hh

theorem opM_mono {i : Nat} {a : Act} {w : World} {K K' : Act → World → Prop} (h : ∀ a w, K a w → K' a w) (hh : opM P c ops i K a w) : opM P c ops i K' a w := by
  unfold opM at *
  split
  · rename_i e; simp only [e] at hh; exact h _ _ hh
  · rename_i o e; simp only [e] at hh; exact opO_mono h hh

theorem Calls_inh {f : FuncId} {args : Array Value} {w : World} {R : Ending → World → Prop} (h : Calls P f args w R) : ∃ e w', R e w' := by
  obtain ⟨e, w', _, hr, _⟩ := h []
  exact ⟨e, w', hr⟩

theorem uponN_inh {o : Oper} {a : Act} {K : Act → World → Prop} {r : Result Next} (hh : uponN P o a K r) : ∃ v w', K (a.put o.dst v) w' := by
  cases r with
  | ok n w' =>
    cases n <;> simp only [uponN] at hh
    case enter f args => obtain ⟨e, w'', v, _, hk⟩ := Calls_inh hh; exact ⟨v, w'', hk⟩
    all_goals exact ⟨_, _, hh⟩
  | halt x w' => simp only [uponN] at hh

theorem opO_inh {k : Nat} {o : Oper} {a : Act} {w : World} {K : Act → World → Prop} (hh : opO P c ops k o K a w) : ∃ v w', K (a.put o.dst v) w' := by
  unfold opO at hh
  split at hh
  · obtain ⟨v, _, hk⟩ := hh; exact ⟨v, w, hk⟩
  · obtain ⟨v, _, hk⟩ := hh; exact ⟨v, w, hk⟩
  · split at hh
    · exact uponN_inh hh
    · exact ⟨_, _, hh⟩

theorem opM_inh {i : Nat} {a : Act} {w : World} {K : Act → World → Prop} (hh : opM P c ops i K a w) : ∃ a' w', K a' w' := by
  unfold opM at hh
  split at hh
  · exact ⟨a, w, hh⟩
  · obtain ⟨v, w', h⟩ := opO_inh hh; exact ⟨_, w', h⟩

theorem Yields_unique {o : Oper} {a : Act} {v u : Value} (w : World) (h : Yields P ops o v a) (h' : Yields P ops o u a) : v = u := by
  rcases h with ⟨h1, h2⟩ | ⟨h1, h2⟩ <;> rcases h' with ⟨h3, h4⟩ | ⟨h3, h4⟩
  · have := (h2 w).symm.trans (h4 w)
    simpa using this
  · rw [h1] at h3; cases h3
  · rw [h1] at h3; cases h3
  · rw [h2, h4]

def compat (c : Nat → Nat) (i j : Nat) : Bool := c i == 0 || c j == 0 || (c i == 1 && c j == 1)

theorem opO_comm {i j : Nat} {oi oj : Oper} (hap : oi.apart ops oj = true) (hsi : ∀ cs b, oi.op ≠ .select cs b) (hsj : ∀ cs b, oj.op ≠ .select cs b)
    (hc : compat c i j = true) {K : Act → World → Prop} {a : Act} {w : World}
    (h : opO P c ops i oi (opO P c ops j oj K) a w) : opO P c ops j oj (opO P c ops i oi K) a w := by
  obtain ⟨h1, h2, h3⟩ := Oper.apart_spec hap
  have ei : ∀ (a : Act) u, execOp (a.put oj.dst u).eval oi = execOp a.eval oi := fun a u => execOp_put oi hsi a oj.dst u h3
  have ej : ∀ (a : Act) u, execOp (a.put oi.dst u).eval oj = execOp a.eval oj := fun a u => execOp_put oj hsj a oi.dst u h1
  have wi : ∀ (a : Act) u, Region.wanted oi (yielded ops (a.put oj.dst u).tmps) = Region.wanted oi (yielded ops a.tmps) := fun a u => wanted_put oi a oj.dst u h3
  have wj : ∀ (a : Act) u, Region.wanted oj (yielded ops (a.put oi.dst u).tmps) = Region.wanted oj (yielded ops a.tmps) := fun a u => wanted_put oj a oi.dst u h1
  have pc : ∀ (a : Act) v u, (a.put oi.dst v).put oj.dst u = (a.put oj.dst u).put oi.dst v := fun a v u => Act.put_comm a v u h2
  simp only [compat, Bool.or_eq_true, beq_iff_eq, Bool.and_eq_true] at hc
  by_cases ci : c i = 0 ∨ c i = 1
  · rw [opO_ev ci] at h
    obtain ⟨v, hv, h⟩ := h
    by_cases cj : c j = 0 ∨ c j = 1
    · rw [opO_ev cj] at h ⊢
      obtain ⟨u, hu, hk⟩ := h
      refine ⟨u, hu.of_same (ej a v).symm (wj a v).symm, ?_⟩
      rw [opO_ev ci]
      exact ⟨v, hv.of_same (ei a u) (wi a u), by rw [← pc]; exact hk⟩
    · have ci0 : c i = 0 := by omega
      rw [opO_strict (by omega) (by omega)] at h ⊢
      rw [wj, ej] at h
      split
      · rename_i hw
        rw [if_pos hw] at h
        generalize (execOp a.eval oj).run P w = r at *
        have fin : ∀ u w', K ((a.put oi.dst v).put oj.dst u) w' → opO P c ops i oi K (a.put oj.dst u) w' := fun u w' hk => by
          rw [opO_ev ci]
          refine ⟨v, ?_, by rw [← pc]; exact hk⟩
          have hv' : Yields P ops oi v a := by unfold Ev at hv; simpa only [ci0] using hv
          have : Yields P ops oi v (a.put oj.dst u) := hv'.of_same (ei a u) (wi a u)
          unfold Ev; simpa only [ci0] using this
        cases r with
        | ok n w' =>
          cases n <;> simp only [uponN] at h ⊢
          case enter f args => exact h.mono fun e w'' ⟨u, he, hk⟩ => ⟨u, he, fin u w'' hk⟩
          all_goals exact fin _ _ h
        | halt x w' => simp only [uponN] at h
      · rename_i hw
        rw [if_neg hw] at h
        rw [opO_ev ci]
        exact ⟨v, hv.of_same (ei a undef) (wi a undef), by rw [← pc]; exact h⟩
  · have cj : c j = 0 := by omega
    rw [opO_strict (by omega) (by omega)] at h
    have cj' : c j = 0 ∨ c j = 1 := .inl cj
    have evY : ∀ u a w, Ev P c ops j oj u a w ↔ Yields P ops oj u a := fun u a w => by unfold Ev; simp only [cj]
    rw [opO_ev cj']
    split at h
    · rename_i hw
      generalize hr : (execOp a.eval oi).run P w = r at *
      obtain ⟨v0, w0, h0⟩ := uponN_inh h
      rw [opO_ev cj'] at h0
      obtain ⟨u, hu, _⟩ := h0
      have hua : Yields P ops oj u a := ((evY u _ _).1 hu).of_same (ej a v0).symm (wj a v0).symm
      refine ⟨u, (evY u a w).2 hua, ?_⟩
      rw [opO_strict (by omega) (by omega), wi, ei, if_pos hw, hr]
      have fin : ∀ v w', opO P c ops j oj K (a.put oi.dst v) w' → K ((a.put oj.dst u).put oi.dst v) w' := fun v w' hk => by
        rw [opO_ev cj'] at hk
        obtain ⟨u', hu', hk⟩ := hk
        have : Yields P ops oj u' a := ((evY u' _ _).1 hu').of_same (ej a v).symm (wj a v).symm
        have e := Yields_unique w' hua this
        subst e
        rw [← pc]; exact hk
      cases r with
      | ok n w' =>
        cases n <;> simp only [uponN] at h ⊢
        case enter f args => exact h.mono fun e w'' ⟨v, he, hk⟩ => ⟨v, he, fin v w'' hk⟩
        all_goals exact fin _ _ h
      | halt x w' => simp only [uponN] at h
    · rename_i hw
      rw [opO_ev cj'] at h
      obtain ⟨u, hu, hk⟩ := h
      have hua : Yields P ops oj u a := ((evY u _ _).1 hu).of_same (ej a undef).symm (wj a undef).symm
      refine ⟨u, (evY u a w).2 hua, ?_⟩
      rw [opO_strict (by omega) (by omega), wi, if_neg hw, ← pc]
      exact hk

def anyM (P : Program) (c : Nat → Nat) (md : Region.Mode) (ops : Array Oper) (Q : Act → World → Prop) : Nat → Array Bool → Act → World → Prop
  | 0, listed, a, w => Region.ready md ops listed = [] ∧ Q a w
  | fuel + 1, listed, a, w =>
    (Region.ready md ops listed = [] → Q a w) ∧
    ∀ i ∈ Region.ready md ops listed, opM P c ops i (anyM P c md ops Q fuel (listed.setIfInBounds i true)) a w

theorem wpOp_of_opM {i : Nat} {a : Act} {w : World} {K : Act → World → Prop} {K' : Act → World → Prop} {Q' : Exit → Act → World → Prop} (h : ∀ a w, K a w → K' a w)
    (hh : opM P c ops i K a w) : wpOp P ops Q' i K' a w := by
  unfold opM at hh
  split at hh
  · rename_i e; unfold wpOp; simp only [e]; exact h _ _ hh
  · rename_i o e
    unfold opO at hh
    split at hh
    · obtain ⟨v, hy, hk⟩ := hh
      exact Yields.wpOp e hy (h _ _ hk)
    · obtain ⟨v, hy, hk⟩ := hh
      exact wpOp_of_stOp (K := fun a' => K' a' w) (fun _ h => h) (YieldsAt.stOp e hy (h _ _ hk))
    · unfold wpOp
      simp only [e]
      split
      · rename_i hw
        rw [if_pos hw] at hh
        refine .inl ?_
        unfold Oper.wp
        generalize (execOp a.eval o).run P w = r at *
        cases r with
        | ok n w' =>
          cases n <;> simp only [uponN] at hh <;> simp only [Oper.upon]
          case enter f args => exact hh.mono fun e w'' ⟨v, he, hk⟩ => by subst he; exact h _ _ hk
          all_goals exact h _ _ hh
        | halt x w' => simp only [uponN] at hh
      · rename_i hw; rw [if_neg hw] at hh; exact h _ _ hh

theorem wpAny_of_anyM {Q : Act → World → Prop} {Q' : Exit → Act → World → Prop} (hQ : ∀ a w, Q a w → Q' .normal a w) : ∀ (fuel : Nat) (listed : Array Bool) (a : Act) (w : World),
    anyM P c md ops Q fuel listed a w → wpAny P md ops Q' fuel listed a w
  | 0, _, _, _, h => ⟨h.1, hQ _ _ h.2⟩
  | fuel + 1, _, _, _, h => ⟨fun h0 => hQ _ _ (h.1 h0), fun i hi => wpOp_of_opM (fun a' w' => wpAny_of_anyM hQ fuel _ a' w') (h.2 i hi)⟩

theorem opM_some {i : Nat} {o : Oper} {K : Act → World → Prop} {a : Act} {w : World} (hi : ops[i]? = some o) : opM P c ops i K a w = opO P c ops i o K a w := by
  unfold opM; simp only [hi]

theorem anyM_first {Q : Act → World → Prop} {i : Nat} {oi : Oper} (hi : ops[i]? = some oi) (hsel : ∀ (j : Nat) (o : Oper) cs b, ops[j]? = some o → o.op ≠ .select cs b) :
    ∀ (fuel : Nat) (listed : Array Bool) (a : Act) (w : World),
      (∀ j oj, ops[j]? = some oj → j ≠ i → listed.getD j true = false → (∀ e ∈ oj.after, Region.binds md e = true → e.on ≠ i) → oi.apart ops oj = true ∧ compat c i j = true) →
      i ∈ Region.ready md ops listed → opM P c ops i (anyM P c md ops Q fuel (listed.setIfInBounds i true)) a w → anyM P c md ops Q (fuel + 1) listed a w := by
  intro fuel
  induction fuel with
  | zero =>
    intro listed a w _ hr H
    refine ⟨fun h => (by rw [h] at hr; cases hr), fun j hj => ?_⟩
    by_cases hji : j = i
    · subst hji; exact H
    · have := ready_mono hj hji
      obtain ⟨a', w', h'⟩ := opM_inh H
      rw [h'.1] at this
      cases this
  | succ fuel ih =>
    intro listed a w hfree hr H
    refine ⟨fun h => (by rw [h] at hr; cases hr), fun j hj => ?_⟩
    by_cases hji : j = i
    · subst hji; exact H
    · obtain ⟨hjun, oj, hoj, hall⟩ := mem_ready.1 hj
      have hnot : ∀ e ∈ oj.after, Region.binds md e = true → e.on ≠ i := fun e he hb heq => by
        have h1 := hall e he hb
        have h0 := (mem_ready.1 hr).1
        rw [heq] at h1
        rcases Nat.lt_or_ge i listed.size with h' | h'
        · simp [h'] at h0 h1; rw [h0] at h1; cases h1
        · simp [Array.getElem?_eq_none h'] at h1
      have hij := hfree j oj hoj hji hjun hnot
      have h1 : opM P c ops i (opM P c ops j (anyM P c md ops Q fuel ((listed.setIfInBounds i true).setIfInBounds j true))) a w :=
        opM_mono (fun a' w' h' => h'.2 j (ready_mono hj hji)) H
      have h2 : opM P c ops j (opM P c ops i (anyM P c md ops Q fuel ((listed.setIfInBounds i true).setIfInBounds j true))) a w := by
        rw [opM_some hoj]
        rw [opM_some hi] at h1
        have e1 : opM P c ops j (anyM P c md ops Q fuel ((listed.setIfInBounds i true).setIfInBounds j true)) = opO P c ops j oj (anyM P c md ops Q fuel ((listed.setIfInBounds i true).setIfInBounds j true)) := by
          funext a w; exact opM_some hoj
        have e2 : opM P c ops i (anyM P c md ops Q fuel ((listed.setIfInBounds i true).setIfInBounds j true)) = opO P c ops i oi (anyM P c md ops Q fuel ((listed.setIfInBounds i true).setIfInBounds j true)) := by
          funext a w; exact opM_some hi
        rw [e1] at h1
        rw [e2]
        exact opO_comm hij.1 (fun cs b => hsel i oi cs b hi) (fun cs b => hsel j oj cs b hoj) hij.2 h1
      have hfree' : ∀ k ok, ops[k]? = some ok → k ≠ i → (listed.setIfInBounds j true).getD k true = false →
          (∀ e ∈ ok.after, Region.binds md e = true → e.on ≠ i) → oi.apart ops ok = true ∧ compat c i k = true := fun k ok hk hki hun hno => by
        refine hfree k ok hk hki ?_ hno
        by_cases hjk : j = k
        · subst hjk; exact hjun
        · rw [getD_set_ne true hjk] at hun; exact hun
      refine opM_mono (fun a' w' h3 => ih (listed.setIfInBounds j true) a' w' hfree' (ready_mono hr (Ne.symm hji)) ?_) h2
      rw [Array.setIfInBounds_comm _ _ hji]
      exact h3

def freeM (c : Nat → Nat) (md : Region.Mode) (ops : Array Oper) (listed : Array Bool) (k : Nat) (o : Oper) : Bool :=
  (List.range ops.size).all fun j => j == k || listed.getD j true ||
    (match ops[j]? with
     | some oj => (oj.after.any fun e => Region.binds md e && e.on == k) || (o.apart ops oj && compat c k j)
     | none => true)

theorem freeM_spec {listed : Array Bool} {k : Nat} {o : Oper} (h : freeM c md ops listed k o = true) :
    ∀ j oj, ops[j]? = some oj → j ≠ k → listed.getD j true = false → (∀ e ∈ oj.after, Region.binds md e = true → e.on ≠ k) → o.apart ops oj = true ∧ compat c k j = true := by
  intro j oj hj hne hun hno
  have hlt : j < ops.size := (Array.getElem?_eq_some_iff.1 hj).1
  have h1 := List.all_eq_true.1 h j (List.mem_range.2 hlt)
  simp only [hj, Bool.or_eq_true, beq_iff_eq, Bool.and_eq_true] at h1
  rcases h1 with (h1 | h1) | h1 | h1
  · exact absurd h1 hne
  · rw [hun] at h1; cases h1
  · obtain ⟨e, he, hb⟩ := Array.any_eq_true'.1 h1
    simp only [Bool.and_eq_true, beq_iff_eq] at hb
    exact absurd hb.2 (hno e he hb.1)
  · exact h1

def lexFromM (c : Nat → Nat) (md : Region.Mode) (ops : Array Oper) : List Oper → Nat → Array Bool → Bool
  | [], _, listed => (Region.ready md ops listed).isEmpty
  | o :: l, k, listed => (Region.ready md ops listed).contains k && freeM c md ops listed k o && lexFromM c md ops l (k + 1) (listed.setIfInBounds k true)

def lexM (c : Nat → Nat) (ops : List Oper) : Bool := Region.noSelect ops.toArray && lexFromM c .any ops.toArray ops 0 (Array.replicate ops.toArray.size false)

/-- The walk in the order of the text. -/
def mix (P : Program) (c : Nat → Nat) (ops : Array Oper) (Q : Act → World → Prop) : Nat → List Oper → Act → World → Prop
  | _, [], a, w => Q a w
  | k, o :: l, a, w => opO P c ops k o (mix P c ops Q (k + 1) l) a w

theorem anyM_lex {Q : Act → World → Prop} (hs : Region.noSelect ops = true) : ∀ (l : List Oper) (k : Nat) (listed : Array Bool) (a : Act) (w : World), (∀ j, l[j]? = ops[k + j]?) →
    lexFromM c md ops l k listed = true → mix P c ops Q k l a w → anyM P c md ops Q l.length listed a w
  | [], _, _, _, _, _, hB, h => ⟨by simpa [lexFromM] using hB, h⟩
  | o :: l, k, listed, a, w, hl, hB, h => by
    have h0 : ops[k]? = some o := by simpa using (hl 0).symm
    simp only [lexFromM, Bool.and_eq_true] at hB
    obtain ⟨⟨hr, hf⟩, hB'⟩ := hB
    refine anyM_first h0 (Region.noSelect_spec hs) l.length listed a w (freeM_spec hf) (by simpa using hr) ?_
    rw [opM_some h0]
    exact opO_mono (fun a' w' h' => anyM_lex hs l (k + 1) _ a' w' (fun j => by have := hl (j + 1); simpa [Nat.add_assoc, Nat.add_comm 1 j] using this) hB' h') h

theorem wp_draw {id : Nat} {l : List Oper} {Q : Exit → Act → World → Prop} {a : Act} {w : World} (c : Nat → Nat) (hm : P.follows .mixedOrders = true) (hB : lexM c l = true)
    (h : mix P c l.toArray (Q .normal) 0 l a { w with drawn := w.drawn + 1 }) : (Code.region id l.toArray true).wp P Q a w := by
  simp only [lexM, Bool.and_eq_true] at hB
  refine wp_region_any hm (wpAny_of_anyM (c := c) (Q := Q .normal) (fun _ _ h => h) _ _ _ _ ?_)
  have := anyM_lex (md := .any) hB.1 l 0 (Array.replicate l.toArray.size false) a { w with drawn := w.drawn + 1 } (by simp) (by simpa using hB.2) h
  simpa using this

theorem wpList_of_mix {Q : Exit → Act → World → Prop} : ∀ (l : List Oper) (k : Nat) (a : Act) (w : World), (∀ j, l[j]? = ops[k + j]?) →
    mix P c ops (Q .normal) k l a w → wpList P ops Q l a w
  | [], _, _, _, _, h => h
  | o :: l, k, a, w, hl, h => by
    have h0 : ops[k]? = some o := by simpa using (hl 0).symm
    have h1 : opM P c ops k (wpList P ops Q l) a w := by
      rw [opM_some h0]
      exact opO_mono (fun a' w' h' => wpList_of_mix l (k + 1) a' w' (fun j => by have := hl (j + 1); simpa [Nat.add_assoc, Nat.add_comm 1 j] using this) h') h
    have h2 := wpOp_of_opM (Q' := Q) (fun _ _ h => h) h1
    unfold wpOp at h2
    simp only [h0] at h2
    unfold wpList
    exact h2

theorem wp_plain {id : Nat} {l : List Oper} {Q : Exit → Act → World → Prop} {a : Act} {w : World} (c : Nat → Nat)
    (h : mix P c l.toArray (Q .normal) 0 l a w) : (Code.region id l.toArray false).wp P Q a w :=
  wp_region_lit (wpList_of_mix l 0 a w (by simp) h)
end mix
end Go.Fl
