/- A walk that stops at a call: what follows it is sealed till the call's contract has been given. Walks by a plan. -/
import Derived.Test.YtfakfllmbfjofaaFlOps
import Derived.Test.YtfakfllmbfjofaaFlNat
namespace Go.Fl
open Go
def vcS (P : Program) (w0 : World) (n : Nat) (gs : FL × KL) (l : List Oper) (cs : List Nat) (Q : FL → Hp → Prop) (L : FL) (h : Hp) : Prop := vc P w0 n gs l cs Q L h
theorem vcS_intro {P : Program} {w0 : World} {n : Nat} {gs : FL × KL} {l : List Oper} {cs : List Nat} {Q : FL → Hp → Prop} {L : FL} {h : Hp} (e : vc P w0 n gs l cs Q L h) : vcS P w0 n gs l cs Q L h := e
section eqs
variable {P : Program} {w0 : World} {n : Nat} {gs : FL × KL} {d : Option Tmp} {ty : TypeId} {p : String} {af : Array Edge} {l : List Oper} {cs : List Nat} {Q : FL → Hp → Prop} {L : FL} {h : Hp}
theorem vc_call2S (f : FuncId) (args : Array Operand) (ats : Array TypeId) : vc P w0 n gs (⟨d, .call ⟨.value (.func f), args, ats⟩, ty, p, af, none⟩ :: l) [] Q L h =
    Inv P w0 f (args.map (ev L n)) h fun v h' => vcS P w0 n gs l [] Q (putL d v L) h' := (rfl)
theorem vc_callWS (f : FuncId) (args : Array Operand) (ats : Array TypeId) : vc P w0 n gs (⟨d, .call ⟨.value (.func f), args, ats⟩, ty, p, af, none⟩ :: l) (2 :: cs) Q L h =
    Inv P w0 f (args.map (ev L n)) h fun v h' => vcS P w0 n gs l cs Q (putL d v L) h' := (rfl)
theorem vc_callQS (f : FuncId) (args : Array Operand) (ats : Array TypeId) : vc P w0 n gs (⟨d, .call ⟨.value (.func f), args, ats⟩, ty, p, af, none⟩ :: l) (1 :: cs) Q L h =
    CallQ P w0 f (args.map (ev L n)) h fun v h' => vcS P w0 n gs l cs Q (putL d v L) h' := (rfl)
theorem vc_call4S (f : FuncId) (args : Array Operand) (ats : Array TypeId) : vc P w0 n gs (⟨d, .call ⟨.value (.func f), args, ats⟩, ty, p, af, none⟩ :: l) (4 :: cs) Q L h =
    Inv P w0 f (args.map (ev L n)) h fun v h' => keeps gs.2 h h' ∧ vcS P w0 n gs l cs Q (putL d v L) h' := (rfl)
theorem vc_op5 (o : Oper) (hg : o.guard = none) (hp : ∀ L, pv P n o L = none) (hx : ∀ L, ixa P n o L = none) : vc P w0 n gs (o :: l) (5 :: cs) Q L h =
    ∃ v, (∀ w0 h', keeps gs.2 h h' → Rs P w0 o (ev L n) h' v) ∧ vc P w0 n gs l cs Q (putL o.dst v L) h := by
  simp only [vc, hg, vo, hp, hx, List.headD_cons, List.tail_cons, vf]
theorem vc_buildSlice4 (t : TypeId) (m : Nat) (ps : Array (Nat × Operand)) : vc P w0 n gs (⟨d, .buildSlice t m ps, ty, p, af, none⟩ :: l) (4 :: cs) Q L h =
    Ro P w0 ⟨d, .buildSlice t m ps, ty, p, af, none⟩ (ev L n) h fun v h' => keeps gs.2 h h' ∧ vcS P w0 n gs l cs Q (putL d v L) h' := (rfl)
theorem vcP_nil : vcP P w0 n gs l cs Q .nil L h = Q L h := (rfl)
theorem vcP_one (i : Nat) (p : Plan) : vcP P w0 n gs l cs Q (.one i p) L h = match l[i]? with
    | some o => vc P w0 n gs [o] [cs.getD i 4] (vcP P w0 n gs l cs Q p) L h
    | none => False := (rfl)
theorem vcP_two (i j : Nat) (p q : Plan) : vcP P w0 n gs l cs Q (.two i j p q) L h = ((match l[i]? with
    | some o => vc P w0 n gs [o] [cs.getD i 4] (vcP P w0 n gs l cs Q p) L h
    | none => False) ∧ (match l[j]? with
    | some o => vc P w0 n gs [o] [cs.getD j 4] (vcP P w0 n gs l cs Q q) L h
    | none => False)) := (rfl)
end eqs
theorem Ch.keep1 {B : List Nat} {h h' : Hp} (k : Ch B h h') {p : Nat × Option Nat} (h1 : p.1 < h.size) (h2 : p.1 ∉ B) : Go.Fl.keep1 p h h' := by
  unfold Go.Fl.keep1
  split
  · exact k.2 _ h1 h2
  · exact cel_eq (k.2 _ h1 h2)
theorem keeps1 {p : Nat × Option Nat} {h h' : Hp} (k : keep1 p h h') : keeps [p] h h' := fun q hq => by simp at hq; subst hq; exact k
end Go.Fl
