/- A walk as a computed condition: the frame as a short list of what its slots hold, the world as a heap; what a list of operations does, by one recursion; that this is so. -/
import Derived.Test.YtfakfllmbfjofaaFlMix
import Derived.Laws.Rows
namespace Go.Fl
open Go

abbrev FL := List (Nat × Value)
abbrev Hp := Array Obj

def lk : FL → Nat → Value
  | [], _ => undef
  | (k, v) :: r, t => if k = t then v else lk r t

def fr (L : FL) (n : Nat) : Array Value := Array.ofFn fun i : Fin n => lk L i.val

theorem fr_get? (L : FL) (n t : Nat) : (fr L n)[t]? = if t < n then some (lk L t) else none := by
  unfold fr
  rw [Array.getElem?_ofFn]
  split <;> rfl

theorem fr_getD (L : FL) (n t : Nat) : (fr L n).getD t undef = if t < n then lk L t else undef := by
  rw [Array.getD_eq_getD_getElem?, fr_get?]
  split <;> rfl

theorem fr_set (L : FL) (n d : Nat) (v : Value) : (fr L n).setIfInBounds d v = fr ((d, v) :: L) n := by
  apply Array.ext_getElem?
  intro i
  rw [Array.getElem?_setIfInBounds, fr_get?, fr_get?]
  have hs : (fr L n).size = n := by simp [fr]
  by_cases h : d = i
  · subst h
    simp only [if_true, hs, lk]
  · simp only [h, if_false, lk]

def enumL : Nat → List Value → FL
  | _, [] => []
  | k, v :: r => (k, v) :: enumL (k + 1) r

theorem lk_enumL (l : List Value) : ∀ k i, lk (enumL k l) (k + i) = l.getD i undef := by
  induction l with
  | nil => intro k i; simp [enumL, lk]
  | cons v r ih =>
    intro k i
    cases i with
    | zero => simp [enumL, lk]
    | succ i =>
      have := ih (k + 1) i
      rw [show k + 1 + i = k + (i + 1) from by omega] at this
      simp only [enumL, lk]
      rw [if_neg (by omega), this]
      simp

theorem fr_init (l : List Value) (n : Nat) (h : l.length ≤ n) : l.toArray ++ Array.replicate (n - l.toArray.size) undef = fr (enumL 0 l) n := by
  apply Array.ext_getElem?
  intro i
  rw [fr_get?]
  have := lk_enumL l 0 i
  rw [Nat.zero_add] at this
  rw [this]
  by_cases hi : i < l.length
  · rw [Array.getElem?_append_left (by simpa using hi)]
    simp [hi, show i < n by omega]
  · rw [Array.getElem?_append_right (by simpa using hi)]
    by_cases hn : i < n
    · rw [Array.getElem?_replicate]
      simp [hn, show l.length ≤ i by omega]
      all_goals omega
    · rw [Array.getElem?_replicate]
      simp [hn]
      all_goals omega

def ev (L : FL) (n : Nat) : Operand → Value
  | .tmp t => if t < n then lk L t else undef
  | .const v => v
  | .global g => .pointer (some ⟨g, 0, none⟩)
  | .func f => .func (.func f) #[] #[]

theorem eval_fr (L : FL) (n : Nat) (df : List Deferred) : (⟨fr L n, df⟩ : Act).eval = ev L n := by
  funext x
  cases x <;> simp only [Act.eval, ev]
  exact fr_getD L n _

def putL (d : Option Tmp) (v : Value) (L : FL) : FL :=
  match d with
  | some d => (d, v) :: L
  | none => L

theorem put_fr (L : FL) (n : Nat) (d : Option Tmp) (v : Value) : (⟨fr L n, []⟩ : Act).put d v = ⟨fr (putL d v L) n, []⟩ := by
  cases d with
  | none => rfl
  | some d => simp [Act.put, putL, fr_set]

/-! the world as a heap -/
def Wd (w0 : World) (h : Hp) (k : Nat) : World := { w0 with heap := h, drawn := k }

theorem Wd_self (w : World) : Wd w w.heap w.drawn = w := rfl
theorem Wd_draw (w0 : World) (h : Hp) (k : Nat) : { Wd w0 h k with drawn := (Wd w0 h k).drawn + 1 } = Wd w0 h (k + 1) := rfl

def cel (h : Hp) (a : Addr) : Option Value :=
  match h[a.block]? with
  | some (.cells c _ _) => if a.spot.isSome then none else c[a.off]?
  | _ => none

theorem Wd_cell (w0 : World) (h : Hp) (k : Nat) (a : Addr) : (Wd w0 h k).cell? a = cel h a := rfl

/-- The row of cells that may be written: its cells, its type. -/
def rowOf (h : Hp) (b : Nat) : Option (Array Value × TypeId) :=
  match h[b]? with
  | some (.cells c T (0, 0)) => some (c, T)
  | _ => none

theorem rowOf_eq {h : Hp} {b : Nat} {c : Array Value} {T : TypeId} (e : rowOf h b = some (c, T)) : h[b]? = some (.cells c T (0, 0)) := by
  unfold rowOf at e
  split at e
  · rename_i h1; rw [h1]; simp at e; rw [e.1, e.2]
  · cases e

theorem rowOf_of {h : Hp} {b : Nat} {c : Array Value} {T : TypeId} (e : h[b]? = some (.cells c T (0, 0))) : rowOf h b = some (c, T) := by
  unfold rowOf; simp only [e]

/-- the heap with other cells in a row -/
def hset (h : Hp) (b : Nat) (c : Array Value) (T : TypeId) : Hp := h.setIfInBounds b (.cells c T (0, 0))

theorem Wd_setCell {w0 : World} {h : Hp} {k b o : Nat} {c : Array Value} {T : TypeId} (v : Value) (e : rowOf h b = some (c, T)) :
    (Wd w0 h k).setCell ⟨b, o, none⟩ v = Wd w0 (hset h b (c.setIfInBounds o v) T) k := by
  have hb := rowOf_eq e
  unfold World.setCell Wd hset
  simp only [World.mk.injEq, and_true]
  apply Array.ext_getElem?
  intro i
  rw [Array.getElem?_modify, Array.getElem?_setIfInBounds]
  by_cases hi : b = i
  · subst hi
    obtain ⟨hlt, he⟩ := Array.getElem?_eq_some_iff.1 hb
    simp [hlt, he]
  · simp [hi]

theorem Wd_frozen {w0 : World} {h : Hp} {k b o : Nat} {c : Array Value} {T : TypeId} (e : rowOf h b = some (c, T)) : (Wd w0 h k).frozen? ⟨b, o, none⟩ = false := by
  have hb := rowOf_eq e
  unfold World.frozen? Wd
  simp only [hb]
  simp

theorem cel_row {h : Hp} {b o : Nat} {c : Array Value} {T : TypeId} (e : rowOf h b = some (c, T)) : cel h ⟨b, o, none⟩ = c[o]? := by
  have hb := rowOf_eq e
  unfold cel
  simp only [hb, Option.isSome_none, Bool.false_eq_true, if_false]

/-! calls -/
/-- A call of function f from this heap on: what it hands back and leaves. -/
def Inv (P : Program) (w0 : World) (f : FuncId) (args : Array Value) (h : Hp) (R : Value → Hp → Prop) : Prop :=
  ∀ k, match (callFunc f args).run P (Wd w0 h k) with
    | .ok (.value v) w' => ∃ h' k', w' = Wd w0 h' k' ∧ R v h'
    | .ok (.enter f' args') w' => Calls P f' args' w' fun e w'' => ∃ v h' k', e = .returned v ∧ w'' = Wd w0 h' k' ∧ R v h'
    | _ => False

/-- A call that leaves the world as it is, but for what has been drawn. -/
structure InvQ (P : Program) (w0 : World) (f : FuncId) (args : Array Value) (h : Hp) (v : Value) : Prop where
  of : Inv P w0 f args h fun u h' => u = v ∧ h' = h

/-- such a call, and what follows it -/
def CallQ (P : Program) (w0 : World) (f : FuncId) (args : Array Value) (h : Hp) (go : Value → Hp → Prop) : Prop := ∃ v, InvQ P w0 f args h v ∧ go v h

@[congr] theorem CallQ_congr {P : Program} {w0 : World} {f : FuncId} {args args' : Array Value} {h h' : Hp} {go : Value → Hp → Prop} (e1 : args = args') (e2 : h = h') : CallQ P w0 f args h go = CallQ P w0 f args' h' go := by rw [e1, e2]
@[congr] theorem Inv_congr {P : Program} {w0 : World} {f : FuncId} {args args' : Array Value} {h h' : Hp} {go : Value → Hp → Prop} (e1 : args = args') (e2 : h = h') : Inv P w0 f args h go = Inv P w0 f args' h' go := by rw [e1, e2]

theorem Inv.mono {P : Program} {w0 : World} {f : FuncId} {args : Array Value} {h : Hp} {R R' : Value → Hp → Prop} (hi : Inv P w0 f args h R) (hr : ∀ v h', R v h' → R' v h') : Inv P w0 f args h R' := by
  intro k
  have := hi k
  generalize (callFunc f args).run P (Wd w0 h k) = r at *
  cases r with
  | ok n w' =>
    cases n <;> simp only at this ⊢
    case value v => obtain ⟨h', k', e1, e2⟩ := this; exact ⟨h', k', e1, hr _ _ e2⟩
    case enter f' args' => exact this.mono fun e w'' ⟨v, h', k', e1, e2, e3⟩ => ⟨v, h', k', e1, e2, hr _ _ e3⟩
  | halt x w' => simp only at this

theorem InvQ.inv {P : Program} {w0 : World} {f : FuncId} {args : Array Value} {h : Hp} {v : Value} (hq : InvQ P w0 f args h v) {R : Value → Hp → Prop} (hr : R v h) : Inv P w0 f args h R :=
  Inv.mono hq.of fun u h' ⟨e1, e2⟩ => by subst e1 e2; exact hr

def hasBody (P : Program) (f : FuncId) : Bool :=
  match P.funcs[f]? with
  | some fn => fn.body.isSome && !(fn.name == "runtime.NumGoroutine")
  | none => false

theorem callFunc_body {P : Program} {f : FuncId} (hb : hasBody P f = true) (args : Array Value) (w : World) : (callFunc f args).run P w = .ok (.enter f args) w := by
  unfold hasBody at hb
  split at hb
  · rename_i fn hf
    simp only [Bool.and_eq_true, Bool.not_eq_true'] at hb
    have h1 : fn.name ≠ "runtime.NumGoroutine" := by simpa using hb.2
    obtain ⟨b, hb'⟩ := Option.isSome_iff_exists.1 hb.1
    simp [callFunc, hf, h1, hb', Sem.run, program, Sem.bind, bind, pure]
  · cases hb

theorem Inv_of_calls {P : Program} {w0 : World} {f : FuncId} {args : Array Value} {h : Hp} {R : Value → Hp → Prop} (hb : hasBody P f = true)
    (hc : ∀ k, Calls P f args (Wd w0 h k) fun e w'' => ∃ v h' k', e = .returned v ∧ w'' = Wd w0 h' k' ∧ R v h') : Inv P w0 f args h R := by
  intro k
  simp only [callFunc_body hb]
  exact hc k

theorem calls_of_Inv {P : Program} {w0 : World} {f : FuncId} {args : Array Value} {h : Hp} {R : Value → Hp → Prop} (hb : hasBody P f = true)
    (hi : Inv P w0 f args h R) (k : Nat) : Calls P f args (Wd w0 h k) fun e w'' => ∃ v h' k', e = .returned v ∧ w'' = Wd w0 h' k' ∧ R v h' := by
  have := hi k
  simp only [callFunc_body hb] at this
  exact this

theorem InvQ_of_calls {P : Program} {w0 : World} {f : FuncId} {args : Array Value} {h : Hp} {v : Value} (hb : hasBody P f = true)
    (hc : ∀ k, Calls P f args (Wd w0 h k) fun e w'' => e = .returned v ∧ w'' = Wd w0 h k) : InvQ P w0 f args h v := by
  refine ⟨fun k => ?_⟩
  rw [callFunc_body hb args _]
  exact (hc k).mono fun e w'' ⟨e1, e2⟩ => ⟨v, h, k, e1, e2, rfl, rfl⟩

/-! single operations -/
/-- it yields v in whatever world -/
def Rp (P : Program) (o : Oper) (ρ : Operand → Value) (v : Value) : Prop := ∀ w, (execOp ρ o).run P w = .ok (.value v) w
/-- it yields v over this heap, and leaves the world -/
def Rs (P : Program) (w0 : World) (o : Oper) (ρ : Operand → Value) (h : Hp) (v : Value) : Prop := ∀ k, (execOp ρ o).run P (Wd w0 h k) = .ok (.value v) (Wd w0 h k)
/-- it yields v (or nothing: then v is undef), and leaves the heap h' -/
def Ro (P : Program) (w0 : World) (o : Oper) (ρ : Operand → Value) (h : Hp) (R : Value → Hp → Prop) : Prop :=
  ∀ k, match (execOp ρ o).run P (Wd w0 h k) with
    | .ok (.value v) w' => ∃ h' k', w' = Wd w0 h' k' ∧ R v h'
    | .ok .skip w' => ∃ h' k', w' = Wd w0 h' k' ∧ R undef h'
    | .ok (.enter f args) w' => Calls P f args w' fun e w'' => ∃ v h' k', e = .returned v ∧ w'' = Wd w0 h' k' ∧ R v h'
    | _ => False

@[congr] theorem Ro_congr {P : Program} {w0 : World} {o : Oper} {ρ : Operand → Value} {h h' : Hp} {go : Value → Hp → Prop} (e2 : h = h') : Ro P w0 o ρ h go = Ro P w0 o ρ h' go := by rw [e2]

def bop (op : BinOp) (x y : Value) : Option Value :=
  match x, y with
  | .int k a, .int k' b =>
    if k = k' then
      match op with
      | .add => some (.int k (k.wrap (a + b)))
      | .sub => some (.int k (k.wrap (a - b)))
      | .mul => some (.int k (k.wrap (a * b)))
      | .and => some (.int k (bits .and k a b))
      | .or => some (.int k (bits .or k a b))
      | .xor => some (.int k (bits .xor k a b))
      | .andNot => some (.int k (bits .andNot k a b))
      | .eql => some (.bool (a == b))
      | .neq => some (.bool (a != b))
      | .lss => some (.bool (decide (a < b)))
      | .leq => some (.bool (decide (a ≤ b)))
      | .gtr => some (.bool (decide (b < a)))
      | .geq => some (.bool (decide (b ≤ a)))
      | .quo => if b = 0 then none else some (.int k (k.wrap (a.tdiv b)))
      | .rem => if b = 0 then none else some (.int k (a.tmod b))
      | _ => none
    else none
  | .string a, .string b =>
    match op with
    | .eql => some (.bool (a.toList == b.toList))
    | .neq => some (.bool !(a.toList == b.toList))
    | _ => none
  | _, _ => none

theorem Rp_bop {P : Program} {o : Oper} {ρ : Operand → Value} {op : BinOp} {t t' : TypeId} {x y : Operand} (ho : o.op = .binOp op t x y t') {v : Value} (h : bop op (ρ x) (ρ y) = some v) : Rp P o ρ v := by
  intro w
  unfold bop at h
  split at h
  · rename_i k a k' b hx hy
    split at h
    · rename_i hk
      subst hk
      cases op <;> simp at h
      case quo => obtain ⟨hb, h⟩ := h; subst h; simp [execOp, ho, hx, hy, eqGuard, binOp, Op.intDiv, hb, Sem.bind, bind, pure]
      case rem => obtain ⟨hb, h⟩ := h; subst h; simp [execOp, ho, hx, hy, eqGuard, binOp, Op.intDiv, hb, Sem.bind, bind, pure]
      all_goals subst h; simp [execOp, ho, hx, hy, eqGuard, binOp, Op.intArith, Op.intBits, Op.intCmp, Sem.bind, bind, pure, bits]
    · cases h
  · rename_i a b hx hy
    cases op <;> simp at h <;> subst h <;> simp [execOp, ho, hx, hy, eqGuard, binOp, Op.stringOp, Sem.bind, bind, pure]
  · cases h

def sh (op : BinOp) (x y : Value) : Option Value :=
  match x, y with
  | .int k a, .int _ b =>
    if b < 0 then none else
    match op with
    | .shl => some (.int k (k.wrap (a * 2 ^ (min b.toNat k.bits))))
    | .shr => some (.int k (a.fdiv (2 ^ (min b.toNat k.bits))))
    | _ => none
  | _, _ => none

theorem Rp_sh {P : Program} {o : Oper} {ρ : Operand → Value} {op : BinOp} {t t' : TypeId} {x y : Operand} (ho : o.op = .binOp op t x y t') {v : Value} (h : sh op (ρ x) (ρ y) = some v) : Rp P o ρ v := by
  intro w
  unfold sh at h
  split at h
  · rename_i k a k' b hx hy
    split at h
    · cases h
    · rename_i hb
      cases op <;> simp at h <;> subst h <;> simp [execOp, ho, hx, hy, eqGuard, binOp, Op.shift, Sem.bind, bind, pure, hb]
  · cases h

def uop (op : UnOp) (x : Value) : Option Value :=
  match op, x with
  | .neg, .int k n => some (.int k (k.wrap (0 - n)))
  | .xor, .int k n => some (.int k (bits .xor k (if k.signed then -1 else k.max) n))
  | .not, .bool b => some (.bool !b)
  | _, _ => none

theorem Rp_uop {P : Program} {o : Oper} {ρ : Operand → Value} {op : UnOp} {t : TypeId} {x : Operand} (ho : o.op = .unOp op t x) {v : Value} (h : uop op (ρ x) = some v) : Rp P o ρ v := by
  intro w
  unfold uop at h
  split at h <;> simp at h <;> subst h <;> rename_i hx <;> simp [execOp, ho, hx, Op.unary, Op.intArith, Op.intBits, Sem.bind, bind, pure, bits]

/-- to which integer kind a conversion goes -/
def ikd (P : Program) (src dst : TypeId) : Option IntKind :=
  match P.underlying src, P.underlying dst with
  | some _, some (.int k) => some k
  | _, _ => none

theorem Rp_conv {P : Program} {o : Oper} {ρ : Operand → Value} {s t : TypeId} {x : Operand} {k k' : IntKind} {a : Int} (ho : o.op = .convert s t x) (hx : ρ x = .int k a)
    (h : ikd P s t = some k') : Rp P o ρ (.int k' (k'.wrap a)) := by
  intro w
  unfold ikd at h
  split at h
  · rename_i h1 h2
    simp at h; subst h
    simp [execOp, ho, hx, convert, underlying, program, h1, h2, Conv.intToInt, Sem.run, Sem.bind, bind, pure]
  · cases h

/-- the size in cells of a slice's element -/
def esz (P : Program) (t : TypeId) : Option Nat :=
  match P.underlying t with
  | some (.slice e) => (P.info? e).map (·.size)
  | _ => none

theorem add_lit (b o n : Nat) : Addr.add ⟨b, o, none⟩ n = ⟨b, o + n, none⟩ := by
  unfold Addr.add; split
  · rename_i h; subst h; rfl
  · rfl

theorem Rp_indexAddr {P : Program} {o : Oper} {ρ : Operand → Value} {t : TypeId} {x i : Operand} {b off len cap sz : Nat} {k : IntKind} {j : Int} (ho : o.op = .indexAddr t x i)
    (hx : ρ x = .slice (some ⟨b, off, none⟩) len cap) (hi : ρ i = .int k j) (h : esz P t = some sz) (h0 : 0 ≤ j) (h1 : j < len) :
    Rp P o ρ (.pointer (some ⟨b, off + j.toNat * sz, none⟩)) := by
  intro w
  unfold esz at h
  split at h
  · rename_i e he
    obtain ⟨inf, hinf, hs⟩ := Option.map_eq_some_iff.1 h
    subst hs
    simp [execOp, ho, hx, hi, Instr.indexAt, asIntOf, underlying, program, he, sizeOf, typeInfo, hinf, h0, h1, add_lit, Sem.run, Sem.bind, bind, pure]
  · cases h

/-- an array's length, and the size of its element -/
def asz (P : Program) (t : TypeId) : Option (Nat × Nat) :=
  match P.underlying t with
  | some (.array n e) => (P.info? e).map fun i => (n, i.size)
  | _ => none

theorem Rp_indexArr {P : Program} {o : Oper} {ρ : Operand → Value} {t : TypeId} {x i : Operand} {b off len sz : Nat} {k : IntKind} {j : Int} (ho : o.op = .indexAddr t x i)
    (hx : ρ x = .pointer (some ⟨b, off, none⟩)) (hi : ρ i = .int k j) (h : asz P t = some (len, sz)) (h0 : 0 ≤ j) (h1 : j < len) :
    Rp P o ρ (.pointer (some ⟨b, off + j.toNat * sz, none⟩)) := by
  intro w
  unfold asz at h
  split at h
  · rename_i n e he
    obtain ⟨inf, hinf, hs⟩ := Option.map_eq_some_iff.1 h
    simp only [Prod.mk.injEq] at hs
    obtain ⟨rfl, rfl⟩ := hs
    simp [execOp, ho, hx, hi, Instr.indexAt, Instr.sureAddr, asIntOf, underlying, program, he, sizeOf, typeInfo, hinf, h0, h1, add_lit, Sem.run, Sem.bind, bind, pure]
  · cases h

theorem Rp_slice {P : Program} {o : Oper} {ρ : Operand → Value} {t : TypeId} {x : Operand} {lo hi : Option Operand} {b off len cap sz : Nat} {l r : Int} (ho : o.op = .slice t x lo hi none)
    (hx : ρ x = .slice (some ⟨b, off, none⟩) len cap) (hs : esz P t = some sz) (hl : match lo with | some y => ∃ k, ρ y = .int k l | none => l = 0) (hr : match hi with | some y => ∃ k, ρ y = .int k r | none => r = len)
    (h0 : 0 ≤ l) (h1 : l ≤ r) (h2 : hi ≠ none → r ≤ cap) :
    Rp P o ρ (.slice (some ⟨b, if cap = l.toNat then off else off + l.toNat * sz, none⟩) (r.toNat - l.toNat) (cap - l.toNat)) := by
  intro w
  unfold esz at hs
  split at hs
  · rename_i e he
    obtain ⟨inf, hinf, hsz⟩ := Option.map_eq_some_iff.1 hs
    subst hsz
    have c1 : hi ≠ none → 0 ≤ r ∧ r ≤ (cap : Int) := fun hh => by have := h2 hh; omega
    have fin : (if cap = l.toNat then some (⟨b, off, none⟩ : Addr) else some (Addr.add ⟨b, off, none⟩ (l.toNat * inf.size))) = some ⟨b, if cap = l.toNat then off else off + l.toNat * inf.size, none⟩ := by
      split
      · rfl
      · rw [add_lit]
    cases lo with
    | none =>
      simp only at hl; subst hl
      cases hi with
      | none =>
        simp only at hr; subst hr
        simp [execOp, ho, hx, Instr.sliceAt, Instr.slice, Instr.sliceBounds, underlying, program, he, sizeOf, typeInfo, hinf, Sem.run, Sem.bind, bind, pure]
        simp at fin; exact fin
      | some y =>
        obtain ⟨k, hk⟩ := hr
        have c1 := c1 (by simp)
        simp [execOp, ho, hx, hk, Instr.sliceAt, Instr.slice, Instr.sliceBounds, Instr.sliceBound, asIntOf, underlying, program, he, sizeOf, typeInfo, hinf, c1, Sem.run, Sem.bind, bind, pure]
        simp at fin; exact fin
    | some z =>
      obtain ⟨k', hk'⟩ := hl
      cases hi with
      | none =>
        simp only at hr; subst hr
        have c3 : 0 ≤ l ∧ l ≤ (len : Int) := ⟨h0, h1⟩
        simp [execOp, ho, hx, hk', Instr.sliceAt, Instr.slice, Instr.sliceBounds, Instr.sliceBound, asIntOf, underlying, program, he, sizeOf, typeInfo, hinf, c3, Sem.run, Sem.bind, bind, pure]
        exact fin
      | some y =>
        obtain ⟨k, hk⟩ := hr
        have c1 := c1 (by simp)
        have c3 : l ≤ max r 0 := by omega
        simp [execOp, ho, hx, hk, hk', Instr.sliceAt, Instr.slice, Instr.sliceBounds, Instr.sliceBound, asIntOf, underlying, program, he, sizeOf, typeInfo, hinf, c1, h0, c3, Sem.run, Sem.bind, bind, pure]
        exact fin
  · cases hs

/-- where a field of a struct lies (a field of one cell and more) -/
def foff (P : Program) (t : TypeId) (f : Nat) : Option Nat :=
  match P.underlying t with
  | some (.struct fs) => match fs[f]? with
    | some fl => match P.info? fl.type with
      | some i => if i.size = 0 then none else some fl.offset
      | none => none
    | none => none
  | _ => none

theorem Rp_fieldAddr {P : Program} {o : Oper} {ρ : Operand → Value} {t : TypeId} {x : Operand} {f b off d : Nat} (ho : o.op = .fieldAddr t x f)
    (hx : ρ x = .pointer (some ⟨b, off, none⟩)) (h : foff P t f = some d) : Rp P o ρ (.pointer (some ⟨b, off + d, none⟩)) := by
  intro w
  unfold foff at h
  split at h
  · rename_i fs he
    split at h
    · rename_i fl hf
      split at h
      · rename_i i hi
        split at h
        · cases h
        · rename_i hz
          simp at h; subst h
          simp [execOp, ho, hx, Instr.fieldAt, Instr.sureAddr, underlying, program, he, hf, fieldPlace, sizeOf, typeInfo, hi, hz, add_lit, Sem.run, Sem.bind, bind, pure]
      · cases h
    · cases h
  · cases h

theorem Rp_nilCheck {P : Program} {o : Oper} {ρ : Operand → Value} {x : Operand} {a : Addr} (ho : o.op = .nilCheck x) (hx : ρ x = .pointer (some a)) : Rp P o ρ (.pointer (some a)) := by
  intro w; simp [execOp, ho, hx, pure]

theorem Rp_move {P : Program} {o : Oper} {ρ : Operand → Value} {x : Operand} (ho : o.op = .move x ∨ o.op = .assign x) : Rp P o ρ (ρ x) := by
  intro w; rcases ho with h | h <;> simp [execOp, h, pure]

theorem Rp_pick {P : Program} {o : Oper} {ρ : Operand → Value} {c x y : Operand} {t : Bool} (ho : o.op = .pick c x y) (hc : ρ c = .bool t) : Rp P o ρ (if t then ρ x else ρ y) := by
  intro w; simp [execOp, ho, hc, asBool, Sem.bind, bind, pure]

theorem Rp_extract {P : Program} {o : Oper} {ρ : Operand → Value} {x : Operand} {i : Nat} {vs : Array Value} {v : Value} (ho : o.op = .extract x i) (hx : ρ x = .tuple vs) (hv : vs[i]? = some v) : Rp P o ρ v := by
  intro w; simp [execOp, ho, hx, Instr.extract, hv, Sem.bind, bind, pure]

def isSl (P : Program) (t : TypeId) : Bool :=
  match P.underlying t with
  | some (.slice _) => true
  | _ => false

theorem Rp_len {P : Program} {o : Oper} {ρ : Operand → Value} {x : Operand} {t : TypeId} {a : Option Addr} {n c : Nat}
    (ho : o.op = .call { callee := .builtin .len, args := #[x], argTypes := #[t] }) (hx : ρ x = .slice a n c) (h : isSl P t = true) : Rp P o ρ (.int .i64 n) := by
  intro w
  unfold isSl at h
  split at h
  · rename_i e he
    simp [execOp, ho, hx, resolve, invoke, builtin, Builtin.len_, underlying, program, he, goInt, Sem.run, Sem.bind, bind, pure]
  · cases h

theorem Rp_cap {P : Program} {o : Oper} {ρ : Operand → Value} {x : Operand} {t : TypeId} {a : Option Addr} {n c : Nat}
    (ho : o.op = .call { callee := .builtin .cap, args := #[x], argTypes := #[t] }) (hx : ρ x = .slice a n c) (h : isSl P t = true) : Rp P o ρ (.int .i64 c) := by
  intro w
  unfold isSl at h
  split at h
  · rename_i e he
    simp [execOp, ho, hx, resolve, invoke, builtin, Builtin.cap_, underlying, program, he, goInt, Sem.run, Sem.bind, bind, pure]
  · cases h

/-- a type whose values lie in one cell, and are no aggregates -/
def one (P : Program) (t : TypeId) : Bool :=
  match P.underlying t with
  | some (.struct _) | some (.array _ _) | none => false
  | _ => true

theorem Rs_load {P : Program} {w0 : World} {o : Oper} {ρ : Operand → Value} {t : TypeId} {x : Operand} {ad : Addr} {h : Hp} {v : Value} (ho : o.op = .load t x) (hx : ρ x = .pointer (some ad))
    (h1 : one P t = true) (hv : cel h ad = some v) : Rs P w0 o ρ h v := by
  intro k
  have hv' : (Wd w0 h k).cell? ad = some v := hv
  unfold one at h1
  cases hu : P.underlying t with
  | none => simp [hu] at h1
  | some d =>
    cases d <;> simp [hu] at h1 <;> simp [execOp, ho, hx, Instr.loadAt, Instr.sureAddr, loadVar, isAgg, underlying, program, hu, load, hv', Sem.run, Sem.bind, bind, pure]

/-- a type of one cell -/
def sz1 (P : Program) (t : TypeId) : Bool :=
  match P.info? t with
  | some i => i.size == 1
  | none => false

def oc : Value → Bool
  | .agg _ | .tuple _ => false
  | _ => true

theorem Ro_store {P : Program} {w0 : World} {o : Oper} {ρ : Operand → Value} {t : TypeId} {x y : Operand} {b off : Nat} {h : Hp} {c : Array Value} {T : TypeId} (ho : o.op = .store t x y)
    (hx : ρ x = .pointer (some ⟨b, off, none⟩)) (h1 : sz1 P t = true) (h2 : oc (ρ y) = true) (hr : rowOf h b = some (c, T)) (hlt : off < c.size) {R : Value → Hp → Prop}
    (hR : R undef (hset h b (c.setIfInBounds off (ρ y)) T)) : Ro P w0 o ρ h R := by
  intro k
  unfold sz1 at h1
  split at h1
  · rename_i i hi
    have hs : i.size = 1 := by simpa using h1
    have hc : (Wd w0 h k).cell? ⟨b, off, none⟩ = some (c[off]'hlt) := by
      rw [Wd_cell, cel_row hr]; simp [hlt]
    have e : (execOp ρ o).run P (Wd w0 h k) = .ok .skip (Wd w0 (hset h b (c.setIfInBounds off (ρ y)) T) k) := by
      generalize hy : ρ y = v at *
      have hfz := Wd_frozen (w0 := w0) (k := k) (o := off) hr
      have hsc := Wd_setCell (w0 := w0) (k := k) (o := off) v hr
      have hadd : Addr.add ⟨b, off, none⟩ 0 = ⟨b, off, none⟩ := rfl
      cases v <;> simp [oc] at h2 <;>
        simp [execOp, ho, hx, hy, Instr.storeAt, Instr.sureAddr, storeVar, sizeOf, typeInfo, program, hi, hs, Value.cells, storeCells, store, hadd, hc, hfz, hsc, Sem.run, Sem.bind, bind, pure]
    rw [e]
    exact ⟨_, _, rfl, hR⟩
  · cases h1

/-! the computed condition -/
/-- blocks, and single cells -/
abbrev KL := List (Nat × Option Nat)

section vcs
variable (P : Program) (w0 : World) (n : Nat) (gs : FL × KL)

/-- what an operation that yields in whatever world yields (none: not by this table) -/
def pv (o : Oper) (L : FL) : Option Value :=
  match o.op with
  | .move x | .assign x => some (ev L n x)
  | .pick c x y => match ev L n c with
    | .bool t => some (if t then ev L n x else ev L n y)
    | _ => none
  | .nilCheck x => match ev L n x with
    | .pointer (some a) => some (.pointer (some a))
    | _ => none
  | .binOp op _ x y _ => match op with
    | .shl => sh .shl (ev L n x) (ev L n y)
    | .shr => sh .shr (ev L n x) (ev L n y)
    | op => bop op (ev L n x) (ev L n y)
  | .unOp op _ x => uop op (ev L n x)
  | .convert s t x => match ev L n x with
    | .int _ a => match ikd P s t with
      | some k' => some (.int k' (k'.wrap a))
      | none => none
    | _ => none
  | .extract x i => match ev L n x with
    | .tuple vs => vs[i]?
    | _ => none
  | .fieldAddr t x f => match ev L n x with
    | .pointer (some ⟨b, off, none⟩) => match foff P t f with
      | some d => some (.pointer (some ⟨b, off + d, none⟩))
      | none => none
    | _ => none
  | .call { callee := .builtin b, args, argTypes } => match b, args.toList, argTypes.toList with
    | .len, [x], [t] => (match ev L n x with
      | .slice _ m _ => if isSl P t then some (.int .i64 m) else none
      | _ => none)
    | .cap, [x], [t] => (match ev L n x with
      | .slice _ _ m => if isSl P t then some (.int .i64 m) else none
      | _ => none)
    | _, _, _ => none
  | _ => none

theorem pv_sound {o : Oper} {L : FL} {v : Value} (h : pv P n o L = some v) : Rp P o (ev L n) v := by
  unfold pv at h
  split at h
  · rename_i x ho; simp at h; subst h; exact Rp_move (.inl ho)
  · rename_i x ho; simp at h; subst h; exact Rp_move (.inr ho)
  · rename_i c x y ho
    split at h
    · rename_i t hc; simp at h; subst h; exact Rp_pick ho hc
    · cases h
  · rename_i x ho
    split at h
    · rename_i a hx; simp at h; subst h; exact Rp_nilCheck ho hx
    · cases h
  · rename_i op _ x y _ ho
    split at h
    · exact Rp_sh ho h
    · exact Rp_sh ho h
    · exact Rp_bop ho h
  · rename_i op _ x ho; exact Rp_uop ho h
  · rename_i s t x ho
    split at h
    · rename_i hx
      split at h
      · rename_i hk; simp at h; subst h; exact Rp_conv ho hx hk
      · cases h
    · cases h
  · rename_i x i ho
    split at h
    · rename_i vs hx; exact Rp_extract ho hx h
    · cases h
  · rename_i t x f ho
    split at h
    · rename_i b off hx
      split at h
      · rename_i d hd; simp at h; subst h; exact Rp_fieldAddr ho hx hd
      · cases h
    · cases h
  · rename_i b args ats ho
    split at h
    · rename_i x t ha ht
      have ho' : o.op = .call { callee := .builtin .len, args := #[x], argTypes := #[t] } := by rw [ho, ← Array.toArray_toList (xs := args), ← Array.toArray_toList (xs := ats), ha, ht]
      split at h
      · rename_i hx
        split at h
        · rename_i hs; simp at h; subst h; exact Rp_len ho' hx hs
        · cases h
      · cases h
    · rename_i x t ha ht
      have ho' : o.op = .call { callee := .builtin .cap, args := #[x], argTypes := #[t] } := by rw [ho, ← Array.toArray_toList (xs := args), ← Array.toArray_toList (xs := ats), ha, ht]
      split at h
      · rename_i hx
        split at h
        · rename_i hs; simp at h; subst h; exact Rp_cap ho' hx hs
        · cases h
      · cases h
    · cases h
  · cases h

/-- the address of an element, with what is to be shown -/
def ixa (o : Oper) (L : FL) : Option (Value × Prop) :=
  match o.op with
  | .indexAddr t x i => match ev L n x, ev L n i with
    | .slice (some ⟨b, off, none⟩) len _, .int _ j => match esz P t with
      | some sz => some (.pointer (some ⟨b, off + j.toNat * sz, none⟩), 0 ≤ j ∧ j < (len : Int))
      | none => none
    | .pointer (some ⟨b, off, none⟩), .int _ j => match asz P t with
      | some (len, sz) => some (.pointer (some ⟨b, off + j.toNat * sz, none⟩), 0 ≤ j ∧ j < (len : Int))
      | none => none
    | _, _ => none
  | .slice t x lo hi none => match ev L n x, esz P t with
    | .slice (some ⟨b, off, none⟩) len cap, some sz => match lo, hi with
      | none, none => some (.slice (some ⟨b, off, none⟩) len cap, True)
      | none, some y => match ev L n y with
        | .int _ r => some (.slice (some ⟨b, off, none⟩) r.toNat cap, 0 ≤ r ∧ r ≤ (cap : Int))
        | _ => none
      | some z, none => match ev L n z with
        | .int _ l => some (.slice (some ⟨b, if cap = l.toNat then off else off + l.toNat * sz, none⟩) (len - l.toNat) (cap - l.toNat), 0 ≤ l ∧ l ≤ (len : Int))
        | _ => none
      | some z, some y => match ev L n z, ev L n y with
        | .int _ l, .int _ r => some (.slice (some ⟨b, if cap = l.toNat then off else off + l.toNat * sz, none⟩) (r.toNat - l.toNat) (cap - l.toNat), 0 ≤ l ∧ l ≤ r ∧ r ≤ (cap : Int))
        | _, _ => none
    | _, _ => none
  | _ => none

theorem ixa_sound {o : Oper} {L : FL} {v : Value} {C : Prop} (h : ixa P n o L = some (v, C)) (hC : C) : Rp P o (ev L n) v := by
  unfold ixa at h
  split at h
  · rename_i t x i ho
    split at h
    · rename_i b off len cap k j hx hi
      split at h
      · rename_i sz hs
        simp only [Option.some.injEq, Prod.mk.injEq] at h
        obtain ⟨rfl, rfl⟩ := h
        exact Rp_indexAddr ho hx hi hs hC.1 hC.2
      · cases h
    · rename_i b off k j hx hi
      split at h
      · rename_i len sz hs
        simp only [Option.some.injEq, Prod.mk.injEq] at h
        obtain ⟨rfl, rfl⟩ := h
        exact Rp_indexArr ho hx hi hs hC.1 hC.2
      · cases h
    · cases h
  · rename_i t x lo hi ho
    have e0 : ∀ (cap off sz : Nat), (if cap = (0 : Int).toNat then off else off + (0 : Int).toNat * sz) = off := fun cap off sz => by split <;> simp
    split at h
    · rename_i b off len cap sz hx hs
      split at h
      · simp only [Option.some.injEq, Prod.mk.injEq] at h
        obtain ⟨rfl, rfl⟩ := h
        have := Rp_slice (l := 0) (r := len) ho hx hs rfl rfl (by omega) (by omega) (by simp)
        rw [e0] at this
        simpa using this
      · rename_i y
        split at h
        · rename_i k r hy
          simp only [Option.some.injEq, Prod.mk.injEq] at h
          obtain ⟨rfl, rfl⟩ := h
          have := Rp_slice (l := 0) (r := r) ho hx hs rfl ⟨k, hy⟩ (by omega) hC.1 (fun _ => hC.2)
          rw [e0] at this
          simpa using this
        · cases h
      · rename_i z
        split at h
        · rename_i k l hz
          simp only [Option.some.injEq, Prod.mk.injEq] at h
          obtain ⟨rfl, rfl⟩ := h
          have := Rp_slice (l := l) (r := len) ho hx hs ⟨k, hz⟩ rfl hC.1 hC.2 (by simp)
          simpa using this
        · cases h
      · rename_i z y
        split at h
        · rename_i k l k' r hz hy
          simp only [Option.some.injEq, Prod.mk.injEq] at h
          obtain ⟨rfl, rfl⟩ := h
          exact Rp_slice (l := l) (r := r) ho hx hs ⟨k, hz⟩ ⟨k', hy⟩ hC.1 hC.2.1 (fun _ => hC.2.2)
        · cases h
    · cases h
  · cases h

/-- this block, or this cell, is as it was -/
def keep1 (p : Nat × Option Nat) (h h' : Hp) : Prop := match p.2 with
  | none => h'[p.1]? = h[p.1]?
  | some o => cel h' ⟨p.1, o, none⟩ = cel h ⟨p.1, o, none⟩
/-- these blocks and cells are as they were -/
def keeps (B : KL) (h h' : Hp) : Prop := ∀ p, p ∈ B → keep1 p h h'
theorem keep1.refl (p : Nat × Option Nat) (h : Hp) : keep1 p h h := by unfold keep1; split <;> rfl
theorem keep1.trans {p : Nat × Option Nat} {a b c : Hp} (h : keep1 p a b) (k : keep1 p b c) : keep1 p a c := by
  unfold keep1 at *
  split <;> rename_i e <;> simp only [e] at h k <;> exact k.trans h
theorem keep1.symm {p : Nat × Option Nat} {a b : Hp} (h : keep1 p a b) : keep1 p b a := by
  unfold keep1 at *
  split <;> rename_i e <;> simp only [e] at h <;> exact h.symm
theorem keeps.refl (B : KL) (h : Hp) : keeps B h h := fun _ _ => keep1.refl _ _
theorem keeps.trans {B : KL} {a b c : Hp} (h : keeps B a b) (k : keeps B b c) : keeps B a c := fun i hi => (h i hi).trans (k i hi)
theorem keeps.symm {B : KL} {a b : Hp} (h : keeps B a b) : keeps B b a := fun i hi => (h i hi).symm

theorem cel_eq {h h' : Hp} {a : Addr} (e : h'[a.block]? = h[a.block]?) : cel h' a = cel h a := by unfold cel; rw [e]
theorem hset_ne {h : Hp} {b b' : Nat} (c : Array Value) (T : TypeId) (hne : b ≠ b') : (hset h b c T)[b']? = h[b']? := by
  unfold hset
  rw [Array.getElem?_setIfInBounds, if_neg hne]
theorem keeps_store {B : KL} {h : Hp} {b off : Nat} {c : Array Value} {T : TypeId} {v : Value} (e : rowOf h b = some (c, T)) (hb : (b, none) ∉ B ∧ (b, some off) ∉ B) : keeps B h (hset h b (c.setIfInBounds off v) T) := by
  rintro ⟨i, o⟩ hp
  unfold keep1
  by_cases hi : i = b
  · subst hi
    cases o with
    | none => exact absurd hp hb.1
    | some o =>
      have ho : off ≠ o := fun e => hb.2 (e ▸ hp)
      have h1 := rowOf_eq e
      have hlt : i < h.size := (Array.getElem?_eq_some_iff.1 h1).1
      show cel _ _ = cel _ _
      unfold cel hset
      simp only [h1, Array.getElem?_setIfInBounds, hlt, if_true, Option.isSome_none, Bool.false_eq_true, if_false, ho]
  · cases o with
    | none => exact hset_ne _ _ (Ne.symm hi)
    | some o => exact cel_eq (hset_ne _ _ (Ne.symm hi))

/-- An operation that the table above does not tell. -/
def vf (cl : Nat) (o : Oper) (L : FL) (h : Hp) (go : Value → Hp → Prop) : Prop :=
  match cl with
  | 0 => ∃ v, Rp P o (ev L n) v ∧ go v h
  | 1 => match o.op with
    | .load t x => one P t = true ∧ (match ev L n x with
      | .pointer (some ad) => match cel h ad with
        | some v => go v h
        | none => False
      | _ => False)
    | .call { callee := .value (.func f), args, .. } => CallQ P w0 f (args.map (ev L n)) h go
    | _ => ∃ v, Rs P w0 o (ev L n) h v ∧ go v h
  | 3 => match o.op with
    | .load t x => one P t = true ∧ (match ev L n x with
      | .pointer (some ⟨b, off, none⟩) => ((b, none) ∈ gs.2 ∨ (b, some off) ∈ gs.2) ∧ (match cel h ⟨b, off, none⟩ with
        | some v => go v h
        | none => False)
      | _ => False)
    | _ => False
  | 4 => match o.op with
    | .store t x y => sz1 P t = true ∧ oc (ev L n y) = true ∧ (match ev L n x with
      | .pointer (some ⟨b, off, none⟩) => match rowOf h b with
        | some (c, T) => off < c.size ∧ ((b, none) ∉ gs.2 ∧ (b, some off) ∉ gs.2) ∧ go undef (hset h b (c.setIfInBounds off (ev L n y)) T)
        | none => False
      | _ => False)
    | .call { callee := .value (.func f), args, .. } => Inv P w0 f (args.map (ev L n)) h fun v h' => keeps gs.2 h h' ∧ go v h'
    | _ => Ro P w0 o (ev L n) h fun v h' => keeps gs.2 h h' ∧ go v h'
  | 5 => ∃ v, (∀ w0 h', keeps gs.2 h h' → Rs P w0 o (ev L n) h' v) ∧ go v h
  | 6 => Ro P w0 o (ev L n) h go
  | _ => match o.op with
    | .load t x => one P t = true ∧ (match ev L n x with
      | .pointer (some ad) => match cel h ad with
        | some v => go v h
        | none => False
      | _ => False)
    | .store t x y => sz1 P t = true ∧ oc (ev L n y) = true ∧ (match ev L n x with
      | .pointer (some ⟨b, off, none⟩) => match rowOf h b with
        | some (c, T) => off < c.size ∧ go undef (hset h b (c.setIfInBounds off (ev L n y)) T)
        | none => False
      | _ => False)
    | .call { callee := .value (.func f), args, .. } => Inv P w0 f (args.map (ev L n)) h go
    | _ => Ro P w0 o (ev L n) h go

/-- One operation of class cl, and what follows it. -/
def vo (cl : Nat) (o : Oper) (L : FL) (h : Hp) (go : Value → Hp → Prop) : Prop :=
  match pv P n o L with
  | some v => go v h
  | none => match ixa P n o L with
    | some (v, C) => C ∧ go v h
    | none => vf P w0 n gs cl o L h go

def vc : List Oper → List Nat → (FL → Hp → Prop) → FL → Hp → Prop
  | [], _, Q, L, h => Q L h
  | o :: l, cs, Q, L, h =>
    match o.guard with
    | none => vo P w0 n gs (cs.headD 2) o L h fun v h' => vc l cs.tail Q (putL o.dst v L) h'
    | some (j, want) =>
      match lk gs.1 j with
      | .int _ t => if t < (n : Int) then
          (match lk L t.toNat with
          | .bool b => if b = want then vo P w0 n gs (cs.headD 2) o L h fun v h' => vc l cs.tail Q (putL o.dst v L) h' else vc l cs.tail Q (putL o.dst undef L) h
          | _ => vc l cs.tail Q (putL o.dst undef L) h) else False
      | _ => False
end vcs

/-- the guards' slots: of operation j the slot that it writes -/
def gsOk (ops : Array Oper) : FL → Bool
  | [] => true
  | (j, .int _ t) :: r => decide (0 ≤ t) && ((ops[j]?).bind (·.dst) == some t.toNat) && gsOk ops r
  | _ => false

theorem gsOk_spec {ops : Array Oper} : ∀ {gs : FL}, gsOk ops gs = true → ∀ j k t, lk gs j = .int k t → 0 ≤ t ∧ (ops[j]?).bind (·.dst) = some t.toNat
  | [], _, j, k, t, h => by simp [lk, undef] at h
  | (i, v) :: r, hg, j, k, t, h => by
    cases v with
    | int k' t' =>
      simp only [gsOk, Bool.and_eq_true, beq_iff_eq, decide_eq_true_eq] at hg
      simp only [lk] at h
      split at h
      · rename_i e; subst e; simp at h; obtain ⟨rfl, rfl⟩ := h; exact hg.1
      · exact gsOk_spec hg.2 j k t h
    | _ => simp [gsOk] at hg

theorem hset_get_ne' {h : Hp} {b b' : Nat} (c : Array Value) (T : TypeId) (hne : b ≠ b') : (hset h b c T)[b']? = h[b']? := by
  unfold hset
  rw [Array.getElem?_setIfInBounds, if_neg hne]

section sound
variable {P : Program} {w0 : World} {n : Nat} {gs : FL × KL} {c : Nat → Nat} {ops : Array Oper} {S : Hp → Prop} {hs : Hp}

def St (w0 : World) (n : Nat) (Q : FL → Hp → Prop) (a : Act) (w : World) : Prop := ∃ L h k, a = ⟨fr L n, []⟩ ∧ w = Wd w0 h k ∧ Q L h

theorem Det_Rp {cl : Nat} {o : Oper} {a : Act} {v : Value} (hw : Region.wanted o (yielded ops a.tmps) = true) (hr : Rp P o a.eval v) : Det P S ops cl o v a := by
  unfold Det
  split
  · exact .inl ⟨hw, hr⟩
  · exact .inl ⟨hw, fun w _ => hr w⟩

theorem Det_skip {cl : Nat} {o : Oper} {a : Act} (hw : Region.wanted o (yielded ops a.tmps) = false) : Det P S ops cl o undef a := by
  unfold Det
  split
  · exact .inr ⟨hw, rfl⟩
  · exact .inr ⟨hw, rfl⟩

theorem opO_Rp {k : Nat} {o : Oper} {K : Act → World → Prop} {a : Act} {w : World} {v : Value} (hS : c k = 4 → S w.heap) (hw : Region.wanted o (yielded ops a.tmps) = true) (hr : Rp P o a.eval v) (hk : ∀ d, K (a.put o.dst v) { w with drawn := d }) :
    opO P S c ops k o K a w := by
  by_cases hc : isD (c k) = true
  · rw [opO_d hc]
    exact ⟨v, Det_Rp hw hr, hk w.drawn⟩
  by_cases hc1 : c k = 1
  · rw [opO_1 hc1]
    exact ⟨v, .inl ⟨hw, fun d => by rw [hr]; exact ⟨rfl, d, rfl⟩⟩, hk⟩
  · rw [opO_strict (by simpa using hc) hc1, if_pos hw, hr w]
    exact ⟨hS, hk w.drawn⟩

theorem opO_still {k : Nat} {o : Oper} {K : Act → World → Prop} {a : Act} {h : Hp} {d : Nat} {v : Value} (hS : c k = 4 → S h) (hc : isD (c k) = false) (hw : Region.wanted o (yielded ops a.tmps) = true)
    (hr : ∀ d, (execOp a.eval o).run P (Wd w0 h d) = .ok (.value v) (Wd w0 h d)) (hk : ∀ d, K (a.put o.dst v) (Wd w0 h d)) : opO P S c ops k o K a (Wd w0 h d) := by
  by_cases hc1 : c k = 1
  · rw [opO_1 hc1]
    refine ⟨v, .inl ⟨hw, fun d' => ?_⟩, hk⟩
    rw [show ({ Wd w0 h d with drawn := d' } : World) = Wd w0 h d' from rfl, hr d']
    exact ⟨rfl, d', rfl⟩
  · rw [opO_strict hc hc1, if_pos hw, hr]
    exact ⟨hS, hk d⟩

theorem opO_Ro {k : Nat} {o : Oper} {K : Act → World → Prop} {L : FL} {h : Hp} {d : Nat} {R : Value → Hp → Prop} (hc : isD (c k) = false) (hc1 : c k ≠ 1) (hw : Region.wanted o (yielded ops (fr L n)) = true)
    (hr : Ro P w0 o (ev L n) h R) (hk : ∀ v h' d', R v h' → (c k = 4 → S h') ∧ K ⟨fr (putL o.dst v L) n, []⟩ (Wd w0 h' d')) : opO P S c ops k o K ⟨fr L n, []⟩ (Wd w0 h d) := by
  rw [opO_strict hc hc1, if_pos hw, eval_fr]
  have := hr d
  generalize (execOp (ev L n) o).run P (Wd w0 h d) = r at *
  cases r with
  | ok nx w' =>
    cases nx <;> simp only at this
    case value v => obtain ⟨h', d', rfl, h2⟩ := this; obtain ⟨h3, h4⟩ := hk v h' d' h2; exact ⟨h3, by rw [put_fr]; exact h4⟩
    case skip => obtain ⟨h', d', rfl, h2⟩ := this; obtain ⟨h3, h4⟩ := hk undef h' d' h2; exact ⟨h3, by rw [put_fr]; exact h4⟩
    case enter f args =>
      refine this.mono fun e w'' ⟨v, h', d', e1, e2, h2⟩ => ?_
      obtain ⟨h3, h4⟩ := hk v h' d' h2
      subst e2
      exact ⟨v, e1, h3, by rw [put_fr]; exact h4⟩
  | halt x w' => simp only at this

theorem Ro_of_Inv {o : Oper} {L : FL} {h : Hp} {f : FuncId} {args : Array Operand} {ats : Array TypeId} {R : Value → Hp → Prop} (ho : o.op = .call { callee := .value (.func f), args := args, argTypes := ats })
    (hi : Inv P w0 f (args.map (ev L n)) h R) : Ro P w0 o (ev L n) h R := by
  intro k
  have e : (execOp (ev L n) o).run P (Wd w0 h k) = (callFunc f (args.map (ev L n))).run P (Wd w0 h k) := by
    simp [execOp, ho, resolve, ev, Deferred.ofValue, invoke, Sem.bind, bind, pure]
  rw [e]
  have := hi k
  generalize (callFunc f (args.map (ev L n))).run P (Wd w0 h k) = r at *
  cases r with
  | ok nx w' => cases nx <;> simp only at this ⊢ <;> exact this
  | halt x w' => simp only at this

/-- S, the memory of which classes 3 and 5 tell: the blocks gs.2 are as in hs -/
def Sk (gs : FL × KL) (hs : Hp) (h : Hp) : Prop := keeps gs.2 hs h

theorem vo_sound {k : Nat} {o : Oper} {K : Act → World → Prop} {L : FL} {h : Hp} {d : Nat} {go : Value → Hp → Prop} (hS : Sk gs hs h) (h2 : gs.2 = [] ∨ isD (c k) = true ∨ c k = 1 ∨ c k = 4) (hw : Region.wanted o (yielded ops (fr L n)) = true)
    (hv : vo P w0 n gs (c k) o L h go) (hk : ∀ v h' d', Sk gs hs h' → go v h' → K ⟨fr (putL o.dst v L) n, []⟩ (Wd w0 h' d')) : opO P (Sk gs hs) c ops k o K ⟨fr L n, []⟩ (Wd w0 h d) := by
  unfold vo at hv
  split at hv
  · rename_i v hp
    refine opO_Rp (fun _ => hS) hw (by rw [eval_fr]; exact pv_sound P n hp) ?_
    intro d'; rw [put_fr]; exact hk _ _ _ hS hv
  split at hv
  · rename_i v C hp
    refine opO_Rp (fun _ => hS) hw (by rw [eval_fr]; exact ixa_sound P n hp hv.1) ?_
    intro d'; rw [put_fr]; exact hk _ _ _ hS hv.2
  generalize hcl : c k = cl at hv h2
  unfold vf at hv
  split at hv
  · obtain ⟨v, hr, hg⟩ := hv
    refine opO_Rp (fun _ => hS) hw (by rw [eval_fr]; exact hr) ?_
    intro d'; rw [put_fr]; exact hk _ _ _ hS hg
  · split at hv
    · rename_i t x ho
      obtain ⟨h1, h3⟩ := hv
      split at h3
      · rename_i ad hx
        split at h3
        · rename_i v hcv
          refine opO_still (fun _ => hS) (by rw [hcl]; rfl) hw (by rw [eval_fr]; exact Rs_load ho hx h1 hcv) ?_
          intro d'; rw [put_fr]; exact hk _ _ _ hS h3
        · cases h3
      · cases h3
    · rename_i f args ats ho
      obtain ⟨v, hq, hg⟩ := hv
      have e : ∀ d, (execOp (ev L n) o).run P (Wd w0 h d) = (callFunc f (args.map (ev L n))).run P (Wd w0 h d) := fun d => by
        simp [execOp, ho, resolve, ev, Deferred.ofValue, invoke, Sem.bind, bind, pure]
      rw [opO_1 hcl]
      refine ⟨v, .inl ⟨hw, fun d' => ?_⟩, fun d' => by rw [put_fr]; exact hk _ _ _ hS hg⟩
      rw [eval_fr, show ({ Wd w0 h d with drawn := d' } : World) = Wd w0 h d' from rfl, e]
      have := hq.of d'
      generalize (callFunc f (args.map (ev L n))).run P (Wd w0 h d') = r at *
      cases r with
      | ok nx w' =>
        cases nx <;> simp only at this
        case value u => obtain ⟨h', k', rfl, rfl, rfl⟩ := this; exact ⟨rfl, k', rfl⟩
        case enter f' args' => exact this.mono fun e w'' ⟨u, h', k', e1, e2, e3, e4⟩ => by subst e3 e4; exact ⟨e1, k', e2⟩
      | halt x w' => simp only at this
    · obtain ⟨v, hr, hg⟩ := hv
      refine opO_still (fun _ => hS) (by rw [hcl]; rfl) hw (by rw [eval_fr]; exact hr) ?_
      intro d'; rw [put_fr]; exact hk _ _ _ hS hg
  · split at hv
    · rename_i t x ho
      obtain ⟨h1, h3⟩ := hv
      split at h3
      · rename_i b off hx
        obtain ⟨hb, h3⟩ := h3
        split at h3
        · rename_i v hcv
          rw [opO_d (by rw [hcl]; rfl)]
          refine ⟨v, ?_, by rw [put_fr]; exact hk _ _ _ hS h3⟩
          unfold Det
          rw [if_neg (by rw [hcl]; decide)]
          refine .inl ⟨hw, fun w hSw => ?_⟩
          have hcw : cel w.heap ⟨b, off, none⟩ = some v := by
            rw [← hcv]
            rcases hb with hb | hb
            · exact cel_eq (Eq.trans (show w.heap[b]? = hs[b]? from hSw _ hb) (Eq.symm (show h[b]? = hs[b]? from hS _ hb)))
            · exact Eq.trans (show cel w.heap ⟨b, off, none⟩ = cel hs ⟨b, off, none⟩ from hSw _ hb) (Eq.symm (show cel h ⟨b, off, none⟩ = cel hs ⟨b, off, none⟩ from hS _ hb))
          rw [eval_fr]
          exact Rs_load (w0 := w) ho hx h1 hcw w.drawn
        · cases h3
      · cases h3
    · cases hv
  · split at hv
    · rename_i t x y ho
      obtain ⟨h3, h4, h5⟩ := hv
      split at h5
      · rename_i b off hx
        split at h5
        · rename_i cs T hrow
          refine opO_Ro (by rw [hcl]; rfl) (by rw [hcl]; decide) hw (Ro_store ho hx h3 h4 hrow h5.1 (R := fun v h' => keeps gs.2 h h' ∧ go v h') ⟨keeps_store hrow h5.2.1, h5.2.2⟩) ?_
          exact fun v h' d' ⟨hkp, hg⟩ => ⟨fun _ => hS.trans hkp, hk _ _ _ (hS.trans hkp) hg⟩
        · cases h5
      · cases h5
    · rename_i f args ats ho
      refine opO_Ro (by rw [hcl]; rfl) (by rw [hcl]; decide) hw (Ro_of_Inv ho hv) ?_
      exact fun v h' d' ⟨hkp, hg⟩ => ⟨fun _ => hS.trans hkp, hk _ _ _ (hS.trans hkp) hg⟩
    · refine opO_Ro (by rw [hcl]; rfl) (by rw [hcl]; decide) hw hv ?_
      exact fun v h' d' ⟨hkp, hg⟩ => ⟨fun _ => hS.trans hkp, hk _ _ _ (hS.trans hkp) hg⟩
  · obtain ⟨v, hr, hg⟩ := hv
    rw [opO_d (by rw [hcl]; rfl)]
    refine ⟨v, ?_, by rw [put_fr]; exact hk _ _ _ hS hg⟩
    unfold Det
    rw [if_neg (by rw [hcl]; decide)]
    refine .inl ⟨hw, fun w hSw => ?_⟩
    rw [eval_fr]
    exact hr w w.heap (keeps.trans (keeps.symm hS) hSw) w.drawn
  · have hB : gs.2 = [] := by
      rcases h2 with h | h | h | h
      · exact h
      · cases h
      · cases h
      · cases h
    have hall : ∀ h', Sk gs hs h' := fun h' b hb => by rw [hB] at hb; cases hb
    exact opO_Ro (by rw [hcl]; rfl) (by rw [hcl]; decide) hw hv fun v h' d' hg => ⟨fun _ => hall _, hk _ _ _ (hall _) hg⟩
  · rename_i h0 h1 h3 h4 h5 h6
    have hd : isD (c k) = false := by rw [hcl]; unfold isD; simp only [Bool.or_eq_false_iff, beq_eq_false_iff_ne]; exact ⟨⟨h0, h3⟩, h5⟩
    have hB : gs.2 = [] := by
      rcases h2 with h | h | h | h
      · exact h
      · rw [← hcl, hd] at h; cases h
      · exact absurd h h1
      · exact absurd h h4
    have hall : ∀ h', Sk gs hs h' := fun h' b hb => by rw [hB] at hb; cases hb
    split at hv
    · rename_i t x ho
      obtain ⟨h3, h2⟩ := hv
      split at h2
      · rename_i ad hx
        split at h2
        · rename_i v hcv
          refine opO_still (fun _ => hall _) hd hw (by rw [eval_fr]; exact Rs_load ho hx h3 hcv) ?_
          intro d'; rw [put_fr]; exact hk _ _ _ hS h2
        · cases h2
      · cases h2
    · rename_i t x y ho
      obtain ⟨h3, h4, h2⟩ := hv
      split at h2
      · rename_i b off hx
        split at h2
        · rename_i cs T hrow
          exact opO_Ro hd (by rw [hcl]; exact h1) hw (Ro_store ho hx h3 h4 hrow h2.1 (R := go) h2.2) fun v h' d' hg => ⟨fun _ => hall _, hk _ _ _ (hall _) hg⟩
        · cases h2
      · cases h2
    · rename_i f args ats ho
      exact opO_Ro hd (by rw [hcl]; exact h1) hw (Ro_of_Inv ho hv) fun v h' d' hg => ⟨fun _ => hall _, hk _ _ _ (hall _) hg⟩
    · exact opO_Ro hd (by rw [hcl]; exact h1) hw hv fun v h' d' hg => ⟨fun _ => hall _, hk _ _ _ (hall _) hg⟩

theorem vc_step (hgs : gsOk ops gs.1 = true) {Q : FL → Hp → Prop} {K : Act → World → Prop} {o : Oper} {l : List Oper} {i : Nat} {cs : List Nat} {L : FL} {h : Hp} {d : Nat} (hS : Sk gs hs h) (hc0 : c i = cs.headD 2) (h2 : gs.2 = [] ∨ isD (c i) = true ∨ c i = 1 ∨ c i = 4)
    (hv : vc P w0 n gs (o :: l) cs Q L h) (rest : ∀ L' h' d', Sk gs hs h' → vc P w0 n gs l cs.tail Q L' h' → K ⟨fr L' n, []⟩ (Wd w0 h' d')) : opO P (Sk gs hs) c ops i o K ⟨fr L n, []⟩ (Wd w0 h d) := by
    rw [vc] at hv
    split at hv
    · rename_i hg
      refine vo_sound hS h2 (by simp [Region.wanted, hg]) (by rw [hc0]; exact hv) fun v h' d' hS' hg => rest _ _ _ hS' hg
    · rename_i j want hg
      split at hv
      · rename_i kk t ht
        obtain ⟨h0, hdst⟩ := gsOk_spec hgs j kk t ht
        split at hv
        · rename_i hlt
          have hy : yielded ops (fr L n) j = match lk L t.toNat with | .bool b => some b | _ => none := by
            unfold yielded
            rw [hdst]
            simp only [Option.bind_some, fr_get?, show t.toNat < n by omega, if_true]
            cases lk L t.toNat <;> rfl
          have skip : Region.wanted o (yielded ops (fr L n)) = false → vc P w0 n gs l cs.tail Q (putL o.dst undef L) h → opO P (Sk gs hs) c ops i o K ⟨fr L n, []⟩ (Wd w0 h d) := fun hw hv' => by
            by_cases hcc : isD (c i) = true
            · rw [opO_d hcc]
              exact ⟨undef, Det_skip hw, by rw [put_fr]; exact rest _ _ _ hS hv'⟩
            by_cases hcc1 : c i = 1
            · rw [opO_1 hcc1]
              exact ⟨undef, .inr ⟨hw, rfl⟩, fun d' => by rw [put_fr]; exact rest _ _ _ hS hv'⟩
            · rw [opO_strict (by simpa using hcc) hcc1, if_neg (by rw [hw]; simp), put_fr]
              exact rest _ _ _ hS hv'
          split at hv
          · rename_i b hb
            rw [hb] at hy
            split at hv
            · rename_i hbw
              refine vo_sound hS h2 (by simp [Region.wanted, hg, hy, hbw]) (by rw [hc0]; exact hv) fun v h' d' hS' hg => rest _ _ _ hS' hg
            · rename_i hbw
              exact skip (by simp [Region.wanted, hg, hy, hbw]) hv
          · rename_i hnb
            have hy' : yielded ops (fr L n) j = none := by
              rw [hy]
              cases hl : lk L t.toNat <;> simp
              exact hnb _ hl
            exact skip (by simp [Region.wanted, hg, hy']) hv
        · cases hv
      · cases hv

theorem Sk_true (gs : FL) (hs : Hp) : Sk (gs, []) hs = fun _ => True := funext fun h => eq_true fun b hb => nomatch hb

theorem vc_sound {gs : FL} (hgs : gsOk ops gs = true) {Q : FL → Hp → Prop} : ∀ (l : List Oper) (i : Nat) (cs : List Nat) (L : FL) (h : Hp) (d : Nat), (∀ j, c (i + j) = cs.getD j 2) →
    vc P w0 n (gs, []) l cs Q L h → mix P (fun _ => True) c ops (St w0 n Q) i l ⟨fr L n, []⟩ (Wd w0 h d)
  | [], _, _, L, h, d, _, hv => ⟨L, h, d, rfl, rfl, hv⟩
  | o :: l, i, cs, L, h, d, hc, hv => by
    have hc0 : c i = cs.headD 2 := by have := hc 0; simp only [Nat.add_zero] at this; rw [this]; cases cs <;> rfl
    have hct : ∀ j, c (i + 1 + j) = cs.tail.getD j 2 := fun j => by
      have := hc (j + 1); rw [show i + 1 + j = i + (j + 1) from by omega, this]; cases cs <;> simp
    rw [mix, ← Sk_true gs h]
    refine vc_step (gs := (gs, [])) hgs (keeps.refl _ _) hc0 (.inl rfl) hv fun L' h' d' _ hv' => ?_
    rw [Sk_true]
    exact vc_sound hgs l (i + 1) cs.tail L' h' d' hct hv'

/-- The walk by a plan: l the region's operations, cs their classes (4 where none is told). -/
def vcP (P : Program) (w0 : World) (n : Nat) (gs : FL × KL) (l : List Oper) (cs : List Nat) (Q : FL → Hp → Prop) : Plan → FL → Hp → Prop
  | .nil, L, h => Q L h
  | .one i p, L, h => match l[i]? with
    | some o => vc P w0 n gs [o] [cs.getD i 4] (vcP P w0 n gs l cs Q p) L h
    | none => False
  | .two i j p q, L, h => (match l[i]? with
    | some o => vc P w0 n gs [o] [cs.getD i 4] (vcP P w0 n gs l cs Q p) L h
    | none => False) ∧ (match l[j]? with
    | some o => vc P w0 n gs [o] [cs.getD j 4] (vcP P w0 n gs l cs Q q) L h
    | none => False)

theorem vcP_sound {l : List Oper} {cs : List Nat} (hgs : gsOk l.toArray gs.1 = true) (h2 : ∀ i, isD (cs.getD i 4) = true ∨ cs.getD i 4 = 1 ∨ cs.getD i 4 = 4) {Q : FL → Hp → Prop} : ∀ (p : Plan) (L : FL) (h : Hp) (d : Nat), Sk gs hs h →
    vcP P w0 n gs l cs Q p L h → mixP P (Sk gs hs) (fun i => cs.getD i 4) l.toArray (St w0 n Q) p ⟨fr L n, []⟩ (Wd w0 h d) := by
  have key : ∀ (i : Nat) (p : Plan) (L : FL) (h : Hp) (d : Nat), (∀ (L : FL) (h : Hp) (d : Nat), Sk gs hs h → vcP P w0 n gs l cs Q p L h → mixP P (Sk gs hs) (fun i => cs.getD i 4) l.toArray (St w0 n Q) p ⟨fr L n, []⟩ (Wd w0 h d)) → Sk gs hs h →
      (match l[i]? with
        | some o => vc P w0 n gs [o] [cs.getD i 4] (vcP P w0 n gs l cs Q p) L h
        | none => False) → opM P (Sk gs hs) (fun i => cs.getD i 4) l.toArray i (mixP P (Sk gs hs) (fun i => cs.getD i 4) l.toArray (St w0 n Q) p) ⟨fr L n, []⟩ (Wd w0 h d) := by
    intro i p L h d ih hS hv
    split at hv
    · rename_i o ho
      rw [opM_some (by simpa using ho)]
      exact vc_step (c := fun i => cs.getD i 4) hgs hS rfl (.inr (h2 i)) hv fun L' h' d' hS' hv' => ih L' h' d' hS' hv'
    · cases hv
  intro p
  induction p with
  | nil => intro L h d _ hv; exact ⟨L, h, d, rfl, rfl, hv⟩
  | one i p ih => intro L h d hS hv; exact key i p L h d ih hS hv
  | two i j p q ihp ihq => intro L h d hS hv; exact ⟨key i p L h d ihp hS hv.1, key j q L h d ihq hS hv.2⟩
end sound

/-! the condition, operation by operation (for simp, from the outside in) -/
section eqs
variable (P : Program) (w0 : World) (n : Nat) (gs : FL × KL) (l : List Oper) (cs : List Nat) (Q : FL → Hp → Prop) (L : FL) (h : Hp) (d : Option Tmp) (ty : TypeId) (p : String) (af : Array Edge)

theorem vc_nil : vc P w0 n gs [] cs Q L h = Q L h := (rfl)
theorem vc_move (x : Operand) : vc P w0 n gs (⟨d, .move x, ty, p, af, none⟩ :: l) cs Q L h = vc P w0 n gs l cs.tail Q (putL d (ev L n x) L) h := (rfl)
theorem vc_assign (x : Operand) : vc P w0 n gs (⟨d, .assign x, ty, p, af, none⟩ :: l) cs Q L h = vc P w0 n gs l cs.tail Q (putL d (ev L n x) L) h := (rfl)
theorem vc_pick (c x y : Operand) : vc P w0 n gs (⟨d, .pick c x y, ty, p, af, none⟩ :: l) cs Q L h =
    match ev L n c with
    | .bool t => vc P w0 n gs l cs.tail Q (putL d (if t then ev L n x else ev L n y) L) h
    | _ => vf P w0 n gs (cs.headD 2) ⟨d, .pick c x y, ty, p, af, none⟩ L h fun v h' => vc P w0 n gs l cs.tail Q (putL d v L) h' := by
  simp only [vc, vo, pv, ixa]; cases ev L n c <;> rfl
theorem vc_nilCheck (x : Operand) : vc P w0 n gs (⟨d, .nilCheck x, ty, p, af, none⟩ :: l) cs Q L h =
    match ev L n x with
    | .pointer (some a) => vc P w0 n gs l cs.tail Q (putL d (.pointer (some a)) L) h
    | _ => vf P w0 n gs (cs.headD 2) ⟨d, .nilCheck x, ty, p, af, none⟩ L h fun v h' => vc P w0 n gs l cs.tail Q (putL d v L) h' := by
  simp only [vc, vo, pv, ixa]; generalize ev L n x = v; cases v with | pointer a => cases a <;> rfl | _ => rfl
theorem vc_bin (op : BinOp) (t t' : TypeId) (x y : Operand) : vc P w0 n gs (⟨d, .binOp op t x y t', ty, p, af, none⟩ :: l) cs Q L h =
    match (match op with | .shl => sh .shl (ev L n x) (ev L n y) | .shr => sh .shr (ev L n x) (ev L n y) | op => bop op (ev L n x) (ev L n y)) with
    | some v => vc P w0 n gs l cs.tail Q (putL d v L) h
    | none => vf P w0 n gs (cs.headD 2) ⟨d, .binOp op t x y t', ty, p, af, none⟩ L h fun v h' => vc P w0 n gs l cs.tail Q (putL d v L) h' := by
  simp only [vc, vo, pv, ixa]
theorem vc_un (op : UnOp) (t : TypeId) (x : Operand) : vc P w0 n gs (⟨d, .unOp op t x, ty, p, af, none⟩ :: l) cs Q L h =
    match uop op (ev L n x) with
    | some v => vc P w0 n gs l cs.tail Q (putL d v L) h
    | none => vf P w0 n gs (cs.headD 2) ⟨d, .unOp op t x, ty, p, af, none⟩ L h fun v h' => vc P w0 n gs l cs.tail Q (putL d v L) h' := by
  simp only [vc, vo, pv, ixa]
theorem vc_conv (s t : TypeId) (x : Operand) : vc P w0 n gs (⟨d, .convert s t x, ty, p, af, none⟩ :: l) cs Q L h =
    match (match ev L n x with | .int _ a => (match ikd P s t with | some k' => some (Value.int k' (k'.wrap a)) | none => none) | _ => none) with
    | some v => vc P w0 n gs l cs.tail Q (putL d v L) h
    | none => vf P w0 n gs (cs.headD 2) ⟨d, .convert s t x, ty, p, af, none⟩ L h fun v h' => vc P w0 n gs l cs.tail Q (putL d v L) h' := by
  simp only [vc, vo, pv, ixa]
theorem vc_extract (x : Operand) (i : Nat) : vc P w0 n gs (⟨d, .extract x i, ty, p, af, none⟩ :: l) cs Q L h =
    match (match ev L n x with | .tuple vs => vs[i]? | _ => none) with
    | some v => vc P w0 n gs l cs.tail Q (putL d v L) h
    | none => vf P w0 n gs (cs.headD 2) ⟨d, .extract x i, ty, p, af, none⟩ L h fun v h' => vc P w0 n gs l cs.tail Q (putL d v L) h' := by
  simp only [vc, vo, pv, ixa]
theorem vc_fieldAddr (t : TypeId) (x : Operand) (f : Nat) : vc P w0 n gs (⟨d, .fieldAddr t x f, ty, p, af, none⟩ :: l) cs Q L h =
    match (match ev L n x with | .pointer (some ⟨b, off, none⟩) => (match foff P t f with | some e => some (Value.pointer (some ⟨b, off + e, none⟩)) | none => none) | _ => none) with
    | some v => vc P w0 n gs l cs.tail Q (putL d v L) h
    | none => vf P w0 n gs (cs.headD 2) ⟨d, .fieldAddr t x f, ty, p, af, none⟩ L h fun v h' => vc P w0 n gs l cs.tail Q (putL d v L) h' := by
  simp only [vc, vo, pv, ixa]
theorem vc_len (x : Operand) (t : TypeId) : vc P w0 n gs (⟨d, .call ⟨.builtin .len, #[x], #[t]⟩, ty, p, af, none⟩ :: l) cs Q L h =
    match (match ev L n x with | .slice _ m _ => if isSl P t then some (Value.int .i64 m) else none | _ => none) with
    | some v => vc P w0 n gs l cs.tail Q (putL d v L) h
    | none => vf P w0 n gs (cs.headD 2) ⟨d, .call ⟨.builtin .len, #[x], #[t]⟩, ty, p, af, none⟩ L h fun v h' => vc P w0 n gs l cs.tail Q (putL d v L) h' := by
  simp only [vc, vo, pv, ixa]
theorem vc_cap (x : Operand) (t : TypeId) : vc P w0 n gs (⟨d, .call ⟨.builtin .cap, #[x], #[t]⟩, ty, p, af, none⟩ :: l) cs Q L h =
    match (match ev L n x with | .slice _ _ m => if isSl P t then some (Value.int .i64 m) else none | _ => none) with
    | some v => vc P w0 n gs l cs.tail Q (putL d v L) h
    | none => vf P w0 n gs (cs.headD 2) ⟨d, .call ⟨.builtin .cap, #[x], #[t]⟩, ty, p, af, none⟩ L h fun v h' => vc P w0 n gs l cs.tail Q (putL d v L) h' := by
  simp only [vc, vo, pv, ixa]
theorem vc_indexAddr (t : TypeId) (x i : Operand) : vc P w0 n gs (⟨d, .indexAddr t x i, ty, p, af, none⟩ :: l) cs Q L h =
    match (match ev L n x, ev L n i with
      | .slice (some ⟨b, off, none⟩) len _, .int _ j => (match esz P t with
        | some sz => some (Value.pointer (some ⟨b, off + j.toNat * sz, none⟩), 0 ≤ j ∧ j < (len : Int))
        | none => none)
      | .pointer (some ⟨b, off, none⟩), .int _ j => (match asz P t with
        | some (len, sz) => some (Value.pointer (some ⟨b, off + j.toNat * sz, none⟩), 0 ≤ j ∧ j < (len : Int))
        | none => none)
      | _, _ => none) with
    | some (v, C) => C ∧ vc P w0 n gs l cs.tail Q (putL d v L) h
    | none => vf P w0 n gs (cs.headD 2) ⟨d, .indexAddr t x i, ty, p, af, none⟩ L h fun v h' => vc P w0 n gs l cs.tail Q (putL d v L) h' := by
  simp only [vc, vo, pv, ixa]
theorem vc_slice0 (t : TypeId) (x : Operand) : vc P w0 n gs (⟨d, .slice t x none none none, ty, p, af, none⟩ :: l) cs Q L h =
    match ev L n x, esz P t with
    | .slice (some ⟨b, off, none⟩) len cap, some _ => vc P w0 n gs l cs.tail Q (putL d (.slice (some ⟨b, off, none⟩) len cap) L) h
    | _, _ => vf P w0 n gs (cs.headD 2) ⟨d, .slice t x none none none, ty, p, af, none⟩ L h fun v h' => vc P w0 n gs l cs.tail Q (putL d v L) h' := by
  simp only [vc, vo, pv, ixa]
  generalize ev L n x = u
  generalize esz P t = e
  cases u with
  | slice a len cap => cases a with
    | none => rfl
    | some a => obtain ⟨b, off, sp⟩ := a; cases sp <;> cases e <;> simp
  | _ => rfl
theorem vc_sliceH (t : TypeId) (x y : Operand) : vc P w0 n gs (⟨d, .slice t x none (some y) none, ty, p, af, none⟩ :: l) cs Q L h =
    match ev L n x, esz P t, ev L n y with
    | .slice (some ⟨b, off, none⟩) _ cap, some _, .int _ r => (0 ≤ r ∧ r ≤ (cap : Int)) ∧ vc P w0 n gs l cs.tail Q (putL d (.slice (some ⟨b, off, none⟩) r.toNat cap) L) h
    | _, _, _ => vf P w0 n gs (cs.headD 2) ⟨d, .slice t x none (some y) none, ty, p, af, none⟩ L h fun v h' => vc P w0 n gs l cs.tail Q (putL d v L) h' := by
  simp only [vc, vo, pv, ixa]
  generalize ev L n x = u
  generalize esz P t = e
  generalize ev L n y = z
  cases u with
  | slice a len cap => cases a with
    | none => rfl
    | some a => obtain ⟨b, off, sp⟩ := a; cases sp <;> cases e <;> cases z <;> rfl
  | _ => rfl
theorem vc_sliceL (t : TypeId) (x z : Operand) : vc P w0 n gs (⟨d, .slice t x (some z) none none, ty, p, af, none⟩ :: l) cs Q L h =
    match ev L n x, esz P t, ev L n z with
    | .slice (some ⟨b, off, none⟩) len cap, some sz, .int _ r => (0 ≤ r ∧ r ≤ (len : Int)) ∧ vc P w0 n gs l cs.tail Q (putL d (.slice (some ⟨b, if cap = r.toNat then off else off + r.toNat * sz, none⟩) (len - r.toNat) (cap - r.toNat)) L) h
    | _, _, _ => vf P w0 n gs (cs.headD 2) ⟨d, .slice t x (some z) none none, ty, p, af, none⟩ L h fun v h' => vc P w0 n gs l cs.tail Q (putL d v L) h' := by
  simp only [vc, vo, pv, ixa]
  generalize ev L n x = u
  generalize esz P t = e
  generalize ev L n z = y
  cases u with
  | slice a len cap => cases a with
    | none => rfl
    | some a => obtain ⟨b, off, sp⟩ := a; cases sp <;> cases e <;> cases y <;> rfl
  | _ => rfl
theorem vc_sliceB (t : TypeId) (x z y : Operand) : vc P w0 n gs (⟨d, .slice t x (some z) (some y) none, ty, p, af, none⟩ :: l) cs Q L h =
    match ev L n x, esz P t, ev L n z, ev L n y with
    | .slice (some ⟨b, off, none⟩) _ cap, some sz, .int _ r, .int _ s => (0 ≤ r ∧ r ≤ s ∧ s ≤ (cap : Int)) ∧ vc P w0 n gs l cs.tail Q (putL d (.slice (some ⟨b, if cap = r.toNat then off else off + r.toNat * sz, none⟩) (s.toNat - r.toNat) (cap - r.toNat)) L) h
    | _, _, _, _ => vf P w0 n gs (cs.headD 2) ⟨d, .slice t x (some z) (some y) none, ty, p, af, none⟩ L h fun v h' => vc P w0 n gs l cs.tail Q (putL d v L) h' := by
  simp only [vc, vo, pv, ixa]
  generalize ev L n x = u
  generalize esz P t = e
  generalize ev L n z = y1
  generalize ev L n y = y2
  cases u with
  | slice a len cap => cases a with
    | none => rfl
    | some a => obtain ⟨b, off, sp⟩ := a; cases sp <;> cases e <;> cases y1 <;> cases y2 <;> rfl
  | _ => rfl
theorem vc_load2 (t : TypeId) (x : Operand) : vc P w0 n gs (⟨d, .load t x, ty, p, af, none⟩ :: l) [] Q L h =
    (one P t = true ∧ match ev L n x with
    | .pointer (some ad) => (match cel h ad with
      | some v => vc P w0 n gs l [] Q (putL d v L) h
      | none => False)
    | _ => False) := (rfl)
theorem vc_load1 (t : TypeId) (x : Operand) : vc P w0 n gs (⟨d, .load t x, ty, p, af, none⟩ :: l) (1 :: cs) Q L h =
    (one P t = true ∧ match ev L n x with
    | .pointer (some ad) => (match cel h ad with
      | some v => vc P w0 n gs l cs Q (putL d v L) h
      | none => False)
    | _ => False) := (rfl)
theorem vc_store2 (t : TypeId) (x y : Operand) : vc P w0 n gs (⟨d, .store t x y, ty, p, af, none⟩ :: l) [] Q L h =
    (sz1 P t = true ∧ oc (ev L n y) = true ∧ match ev L n x with
    | .pointer (some ⟨b, off, none⟩) => (match rowOf h b with
      | some (c, T) => off < c.size ∧ vc P w0 n gs l [] Q (putL d undef L) (hset h b (c.setIfInBounds off (ev L n y)) T)
      | none => False)
    | _ => False) := (rfl)
theorem vc_store1 (t : TypeId) (x y : Operand) : vc P w0 n gs (⟨d, .store t x y, ty, p, af, none⟩ :: l) (2 :: cs) Q L h =
    (sz1 P t = true ∧ oc (ev L n y) = true ∧ match ev L n x with
    | .pointer (some ⟨b, off, none⟩) => (match rowOf h b with
      | some (c, T) => off < c.size ∧ vc P w0 n gs l cs Q (putL d undef L) (hset h b (c.setIfInBounds off (ev L n y)) T)
      | none => False)
    | _ => False) := (rfl)
theorem vc_call2 (f : FuncId) (args : Array Operand) (ats : Array TypeId) : vc P w0 n gs (⟨d, .call ⟨.value (.func f), args, ats⟩, ty, p, af, none⟩ :: l) [] Q L h =
    Inv P w0 f (args.map (ev L n)) h fun v h' => vc P w0 n gs l [] Q (putL d v L) h' := (rfl)
theorem vc_callW (f : FuncId) (args : Array Operand) (ats : Array TypeId) : vc P w0 n gs (⟨d, .call ⟨.value (.func f), args, ats⟩, ty, p, af, none⟩ :: l) (2 :: cs) Q L h =
    Inv P w0 f (args.map (ev L n)) h fun v h' => vc P w0 n gs l cs Q (putL d v L) h' := (rfl)
theorem vc_callQ (f : FuncId) (args : Array Operand) (ats : Array TypeId) : vc P w0 n gs (⟨d, .call ⟨.value (.func f), args, ats⟩, ty, p, af, none⟩ :: l) (1 :: cs) Q L h =
    CallQ P w0 f (args.map (ev L n)) h fun v h' => vc P w0 n gs l cs Q (putL d v L) h' := (rfl)
theorem vc_load3 (t : TypeId) (x : Operand) : vc P w0 n gs (⟨d, .load t x, ty, p, af, none⟩ :: l) (3 :: cs) Q L h =
    (one P t = true ∧ match ev L n x with
    | .pointer (some ⟨b, off, none⟩) => ((b, none) ∈ gs.2 ∨ (b, some off) ∈ gs.2) ∧ (match cel h ⟨b, off, none⟩ with
      | some v => vc P w0 n gs l cs Q (putL d v L) h
      | none => False)
    | _ => False) := (rfl)
theorem vc_store4 (t : TypeId) (x y : Operand) : vc P w0 n gs (⟨d, .store t x y, ty, p, af, none⟩ :: l) (4 :: cs) Q L h =
    (sz1 P t = true ∧ oc (ev L n y) = true ∧ match ev L n x with
    | .pointer (some ⟨b, off, none⟩) => (match rowOf h b with
      | some (c, T) => off < c.size ∧ ((b, none) ∉ gs.2 ∧ (b, some off) ∉ gs.2) ∧ vc P w0 n gs l cs Q (putL d undef L) (hset h b (c.setIfInBounds off (ev L n y)) T)
      | none => False)
    | _ => False) := (rfl)
theorem vc_call4 (f : FuncId) (args : Array Operand) (ats : Array TypeId) : vc P w0 n gs (⟨d, .call ⟨.value (.func f), args, ats⟩, ty, p, af, none⟩ :: l) (4 :: cs) Q L h =
    Inv P w0 f (args.map (ev L n)) h fun v h' => keeps gs.2 h h' ∧ vc P w0 n gs l cs Q (putL d v L) h' := (rfl)
theorem vc_guard (op : Op) (j : Nat) (want : Bool) : vc P w0 n gs (⟨d, op, ty, p, af, some (j, want)⟩ :: l) cs Q L h =
    match lk gs.1 j with
    | .int _ t => if t < (n : Int) then
        (match lk L t.toNat with
        | .bool b => if b = want then vc P w0 n gs (⟨d, op, ty, p, af, none⟩ :: l) cs Q L h else vc P w0 n gs l cs.tail Q (putL d undef L) h
        | _ => vc P w0 n gs l cs.tail Q (putL d undef L) h) else False
    | _ => False := by
  simp only [vc]; rfl

theorem ev_tmp (t : Tmp) : ev L n (.tmp t) = if t < n then lk L t else undef := (rfl)
theorem ev_const (v : Value) : ev L n (.const v) = v := (rfl)
theorem ev_func (f : FuncId) : ev L n (.func f) = .func (.func f) #[] #[] := (rfl)
theorem lk_cons (k : Nat) (v : Value) (t : Nat) : lk ((k, v) :: L) t = if k = t then v else lk L t := (rfl)
theorem putL_some (k : Nat) (v : Value) : putL (some k) v L = (k, v) :: L := (rfl)
theorem putL_none (v : Value) : putL none v L = L := (rfl)
end eqs

/-! code -/
/-- From this frame and heap on the code ends as Q says. -/
def Wc (P : Program) (w0 : World) (n : Nat) (c : Code) (Q : Exit → FL → Hp → Prop) (L : FL) (h : Hp) : Prop :=
  ∀ d, c.wp P (fun e => St w0 n (Q e)) ⟨fr L n, []⟩ (Wd w0 h d)

section code
variable {P : Program} {w0 : World} {n : Nat} {Q : Exit → FL → Hp → Prop} {L : FL} {h : Hp}

theorem Wc_mono {c : Code} {Q' : Exit → FL → Hp → Prop} (hq : ∀ e L h, Q e L h → Q' e L h) (hc : Wc P w0 n c Q L h) : Wc P w0 n c Q' L h :=
  fun d => Code.wp_mono (fun _ _ _ ⟨L, h, k, e1, e2, q⟩ => ⟨L, h, k, e1, e2, hq _ _ _ q⟩) (hc d)

theorem Wc_skip (hq : Q .normal L h) : Wc P w0 n .skip Q L h := fun _ => wp_skip ⟨_, _, _, rfl, rfl, hq⟩
theorem Wc_ret (hq : Q .ret L h) : Wc P w0 n .ret Q L h := fun _ => wp_ret ⟨_, _, _, rfl, rfl, hq⟩
theorem Wc_exit {id : Nat} (hq : Q (.exit id) L h) : Wc P w0 n (.exit id) Q L h := fun _ => wp_exit ⟨_, _, _, rfl, rfl, hq⟩

/-- what follows, where the first part ends in its own end -/
def thn (K : FL → Hp → Prop) (Q : Exit → FL → Hp → Prop) : Exit → FL → Hp → Prop
  | .normal, L, h => K L h
  | e, L, h => Q e L h

theorem Wc_seq {x y : Code} (hx : Wc P w0 n x (thn (Wc P w0 n y Q) Q) L h) : Wc P w0 n (.seq x y) Q L h := fun d =>
  wp_seq (Code.wp_mono (fun e a w ⟨L, h, k, e1, e2, q⟩ => by
    subst e1; subst e2
    cases e with
    | normal => exact q k
    | _ => exact ⟨L, h, k, rfl, rfl, q⟩) (hx d))

theorem Wc_seq_k {x y : Code} (hx : ∀ K : FL → Hp → Prop, (∀ L h, Wc P w0 n y Q L h → K L h) → Wc P w0 n x (thn K Q) L h) : Wc P w0 n (.seq x y) Q L h :=
  Wc_seq (hx _ fun _ _ h => h)

theorem Wc_cond {c : Operand} {x y : Code} {t : Bool} (hc : ev L n c = .bool t) (ht : t = true → Wc P w0 n x Q L h) (hf : t = false → Wc P w0 n y Q L h) : Wc P w0 n (.cond c x y) Q L h := fun d =>
  wp_cond_split (by rw [eval_fr]; exact hc) (fun e => ht e d) (fun e => hf e d)

def inB (id : Nat) (Q : Exit → FL → Hp → Prop) : Exit → FL → Hp → Prop
  | .exit id', L, h => if id' = id then Q .normal L h else Q (.exit id') L h
  | e, L, h => Q e L h

theorem Wc_block {id : Nat} {c : Code} (hc : Wc P w0 n c (inB id Q) L h) : Wc P w0 n (.block id c) Q L h := fun d =>
  wp_block (Code.wp_mono (fun e a w ⟨L, h, k, e1, e2, q⟩ => by
    cases e with
    | exit id' =>
      simp only [inB] at q
      simp only [Exit.inBlock]
      split
      · rename_i hid; rw [if_pos hid] at q; exact ⟨L, h, k, e1, e2, q⟩
      · rename_i hid; rw [if_neg hid] at q; exact ⟨L, h, k, e1, e2, q⟩
    | _ => exact ⟨L, h, k, e1, e2, q⟩) (hc d))

/-- A loop: what holds at each round's head, and a number that every round lowers. -/
theorem Wc_loop {c : Code} (I : Nat → FL → Hp → Prop) (m0 : Nat) (h0 : I m0 L h)
    (round : ∀ m L h, I m L h → Wc P w0 n c (thn (fun L' h' => ∃ m', m' < m ∧ I m' L' h') Q) L h) : Wc P w0 n (.loop c) Q L h := by
  have key : ∀ (m : Nat) (L : FL) (h : Hp) (d : Nat), I m L h → ∀ (b : Frame) (k : List Item) (cs : List Frame),
      ∃ e a' w', St w0 n (Q e) a' w' ∧ Arrives P (lone (b.at ⟨fr L n, []⟩ (.code c :: .inLoop c :: k)) cs (Wd w0 h d)) b k cs e a' w' := by
    intro m
    induction m using Nat.strongRecOn with
    | _ m ih =>
      intro L h d hI b k cs
      obtain ⟨e, a₁, w₁, hq, harr⟩ := round m L h hI d b (.inLoop c :: k) cs
      obtain ⟨L', h', k', rfl, rfl, q⟩ := hq
      cases e with
      | normal =>
        obtain ⟨m', hlt, hI'⟩ := q
        obtain ⟨e₂, a₂, w₂, hq₂, harr₂⟩ := ih m' hlt L' h' k' hI' b k cs
        exact ⟨e₂, a₂, w₂, hq₂, .of_steps (Steps.trans harr (.one step_inLoop)) harr₂⟩
      | exit id => exact ⟨_, _, _, ⟨L', h', k', rfl, rfl, q⟩, .pass (x := .inLoop c) rfl (fun _ _ => .inl (by simp)) harr⟩
      | goto l => exact ⟨_, _, _, ⟨L', h', k', rfl, rfl, q⟩, .pass (x := .inLoop c) rfl (fun _ _ => .inl (by simp)) harr⟩
      | ret => exact ⟨_, _, _, ⟨L', h', k', rfl, rfl, q⟩, .pass (x := .inLoop c) rfl (fun _ _ => .inl (by simp)) harr⟩
      | panic ch => exact ⟨_, _, _, ⟨L', h', k', rfl, rfl, q⟩, .pass (x := .inLoop c) rfl (fun _ _ => .inl (by simp)) harr⟩
      | outgrown => exact ⟨_, _, _, ⟨L', h', k', rfl, rfl, q⟩, .pass (x := .inLoop c) rfl (fun _ _ => .inl (by simp)) harr⟩
  intro d b k cs
  obtain ⟨e, a', w', hq, harr⟩ := key m0 L h d h0 b k cs
  exact ⟨e, a', w', hq, .of_steps (.one step_loop) harr⟩

/-- a region whose order is the text's -/
theorem Wc_plain {id : Nat} {l : List Oper} (gs : FL) (hgs : gsOk l.toArray gs = true) (hv : vc P w0 n (gs, []) l [] (Q .normal) L h) : Wc P w0 n (.region id l.toArray false) Q L h := fun d =>
  wp_plain (fun _ => 2) (vc_sound hgs l 0 [] L h d (fun _ => rfl) hv)

/-- the same with classes (5: an operation that yields, told by what it does; 6: any operation, told by what it does) -/
theorem Wc_plainC {id : Nat} {l : List Oper} (gs : FL) (cs : List Nat) (hgs : gsOk l.toArray gs = true) (hv : vc P w0 n (gs, []) l cs (Q .normal) L h) : Wc P w0 n (.region id l.toArray false) Q L h := fun d =>
  wp_plain (fun i => cs.getD i 2) (vc_sound hgs l 0 cs L h d (fun j => by simp) hv)

/-- a region that draws its order; cs: the classes of its operations -/
theorem Wc_draw {id : Nat} {l : List Oper} (gs : FL) (cs : List Nat) (hgs : gsOk l.toArray gs = true) (hm : P.follows .mixedOrders = true) (hB : lexM (fun i => cs.getD i 2) l = true)
    (hv : vc P w0 n (gs, []) l cs (Q .normal) L h) : Wc P w0 n (.region id l.toArray true) Q L h := fun d =>
  wp_draw (fun i => cs.getD i 2) hm hB (by rw [Wd_draw]; exact vc_sound hgs l 0 cs L h (d + 1) (fun j => by simp) hv)

def clsOk (cs : List Nat) : Bool := cs.all fun k => isD k || k == 1 || k == 4

/-- a region that draws its order, walked by a plan; B: the blocks of which operations of classes 3 and 5 tell -/
theorem Wc_plan {id : Nat} {l : List Oper} (gs : FL) (B : KL) (cs : List Nat) (p : Plan) (hgs : gsOk l.toArray gs = true) (hm : P.follows .mixedOrders = true) (hcl : clsOk cs = true) (hd : planDepth p ≤ l.length)
    (hB : (Region.noSelect l.toArray && planOk (fun i => cs.getD i 4) .any l.toArray p (Array.replicate l.toArray.size false)) = true)
    (hv : vcP P w0 n (gs, B) l cs (Q .normal) p L h) : Wc P w0 n (.region id l.toArray true) Q L h := fun d => by
  have h2 : ∀ i, isD (cs.getD i 4) = true ∨ cs.getD i 4 = 1 ∨ cs.getD i 4 = 4 := fun i => by
    rcases Nat.lt_or_ge i cs.length with hi | hi
    · have := List.all_eq_true.1 hcl _ (List.getElem_mem hi)
      simp only [Bool.or_eq_true, beq_iff_eq] at this
      have e : cs.getD i 4 = cs[i] := by simp [List.getD, List.getElem?_eq_getElem hi]
      rw [e]
      rcases this with (h | h) | h
      · exact .inl h
      · exact .inr (.inl h)
      · exact .inr (.inr h)
    · have e : cs.getD i 4 = 4 := by simp [List.getD, List.getElem?_eq_none hi]
      exact .inr (.inr e)
  simp only [Bool.and_eq_true] at hB
  refine wp_plan (S := Sk (gs, B) h) (fun i => cs.getD i 4) p (fun k => ?_) hm hB.1 hd hB.2 (keeps.refl _ _) ?_
  · rcases h2 k with h | h | h
    · exact .inl h
    · exact .inr (.inl h)
    · exact .inr (.inr (.inl h))
  · rw [Wd_draw]
    exact vcP_sound hgs h2 p L h (d + 1) (keeps.refl _ _) hv

/-- what is known of the slots, and the rest under one name -/
theorem fr_live {L : FL} {n : Nat} : ∀ live : FL, (∀ x ∈ live, x.1 < n → lk L x.1 = x.2) → fr (live ++ L) n = fr L n := by
  intro live
  induction live with
  | nil => intro _; rfl
  | cons x r ih =>
    intro hx
    rw [← ih fun y hy => hx y (List.mem_cons_of_mem _ hy)]
    apply Array.ext_getElem?
    intro i
    rw [fr_get?, fr_get?]
    split
    · rename_i hi
      obtain ⟨k, v⟩ := x
      simp only [List.cons_append, lk]
      split
      · rename_i e; subst e
        have h1 := hx (k, v) (List.mem_cons_self ..) hi
        have h2 := ih fun y hy => hx y (List.mem_cons_of_mem _ hy)
        have h3 := congrArg (fun a : Array Value => a[k]?) h2
        simp only [fr_get?, hi, if_true, Option.some.injEq] at h3
        rw [h3, h1]
      · rfl
    · rfl

/-- The frame told anew: what is live stands ahead of a rest of which nothing is known. -/
theorem Wc_focus {c : Code} (live : FL) (hx : ∀ x ∈ live, lk L x.1 = x.2) (hc : ∀ D : FL, Wc P w0 n c Q (live ++ D) h) : Wc P w0 n c Q L h := fun d => by
  have := hc L d
  rw [fr_live live fun x hx' _ => hx x hx'] at this
  exact this

/-- these slots hold these values -/
def chk : FL → FL → Prop
  | [], _ => True
  | (k, v) :: r, L => lk L k = v ∧ chk r L

theorem chk_spec {L : FL} : ∀ {live : FL}, chk live L → ∀ x ∈ live, lk L x.1 = x.2
  | [], _, _, h => by cases h
  | (k, v) :: r, hc, x, h => by
    rcases List.mem_cons.1 h with rfl | h
    · exact hc.1
    · exact chk_spec hc.2 x h

/-- A loop whose state is s: what its slots hold and its heap are functions of s. -/
theorem Wc_rounds {α : Type} {c : Code} (live : α → FL) (hp : α → Hp) (inv : α → Prop) (μ : α → Nat) (s0 : α) (h0 : chk (live s0) L) (hh : h = hp s0) (hi : inv s0)
    (round : ∀ s D, inv s → Wc P w0 n c (thn (fun L' h' => ∃ s', inv s' ∧ μ s' < μ s ∧ chk (live s') L' ∧ h' = hp s') Q) (live s ++ D) (hp s)) : Wc P w0 n (.loop c) Q L h := by
  refine Wc_loop (fun m L h => ∃ s, inv s ∧ m = μ s ∧ chk (live s) L ∧ h = hp s) (μ s0) ⟨s0, hi, rfl, h0, hh⟩ ?_
  rintro m L h ⟨s, hs, rfl, hc, rfl⟩
  refine Wc_focus (live s) (chk_spec hc) fun D => Wc_mono ?_ (round s D hs)
  intro e L' h' q
  cases e with
  | normal => obtain ⟨s', h1, h2, h3, h4⟩ := q; exact ⟨μ s', h2, s', h1, rfl, h3, h4⟩
  | _ => exact q

/-- what a function hands back: of its result slots -/
def resV (fn : Func) (L : FL) (n : Nat) : Option Value :=
  match fn.results.toList with
  | [] => some (.tuple #[])
  | [.tmp t] => some (ev L n (.tmp t))
  | [.tmp t, .tmp u] => some (.tuple #[ev L n (.tmp t), ev L n (.tmp u)])
  | _ => none

theorem resV_sound {fn : Func} {v : Value} (h : resV fn L n = some v) (w : World) : (results fn (fr L n)).run P w = .ok v w := by
  unfold resV at h
  have e : ∀ t, (fr L n).getD t undef = ev L n (.tmp t) := fun t => by rw [fr_getD]; rfl
  split at h
  · rename_i hr
    simp at h; subst h
    exact results_none (by rw [← Array.toArray_toList (xs := fn.results), hr]) _ _ _
  · rename_i t hr
    simp at h; subst h
    rw [results_tmp (t := t) (by rw [← Array.toArray_toList (xs := fn.results), hr]), e]
  · rename_i t u hr
    simp at h; subst h
    rw [results_tmp2 (t := t) (u := u) (by rw [← Array.toArray_toList (xs := fn.results), hr]), e, e]
  · cases h

/-- the function's own end -/
def fin (fn : Func) (n : Nat) (R : Value → Hp → Prop) : Exit → FL → Hp → Prop
  | .normal, L, h | .ret, L, h => match resV fn L n with
    | some v => R v h
    | none => False
  | _, _, _ => False

/-- what a function hands back that has one result, which lies in memory -/
def finC (P : Program) (t : Tmp) (ty : TypeId) (n : Nat) (R : Value → Hp → Prop) : Exit → FL → Hp → Prop
  | .normal, L, h | .ret, L, h => ∃ g cs T, lk L t = .pointer (some ⟨g, 0, none⟩) ∧ rowOf h g = some (cs, T) ∧ (P.info? ty).map (·.size) = some cs.size ∧ R (.agg cs) h
  | _, _, _ => False

theorem Inv_of_WcC {f : FuncId} {fn : Func} {c : Code} {args : List Value} {R : Value → Hp → Prop} {t : Tmp} {ty : TypeId} {dd : TypeDesc} (hf : P.funcs[f]? = some fn) (hb : fn.body = some c) (hn : fn.ntmps = n) (hle : args.length ≤ n) (hB : hasBody P f = true)
    (hr : fn.results = #[.cell t ty]) (ht : t < n) (hu : P.underlying ty = some dd) (hd : (match dd with | .struct _ | .array _ _ => true | _ => false) = true)
    (hc : Wc P w0 n c (finC P t ty n R) (enumL 0 args) h) : Inv P w0 f args.toArray h R :=
  Inv_of_calls hB fun k => by
    refine calls_of_wp hf hb ?_
    subst hn
    rw [fr_init args fn.ntmps hle]
    refine Code.wp_mono ?_ (hc k)
    intro e a w ⟨L, h', k', e1, e2, q⟩
    subst e1; subst e2
    cases e <;> simp only [finC] at q <;> simp only [bodyPost]
    all_goals
      obtain ⟨g, cs, T, hl, hrow, hi, hR⟩ := q
      have hp : (fr L fn.ntmps).getD t undef = .pointer (some ⟨g, 0, none⟩) := by rw [fr_getD]; simp only [ht, if_true]; exact hl
      have := results_cell_row (P := P) hr (fr L fn.ntmps) (Wd w0 h' k') g T cs (0, 0) dd hp (rowOf_eq hrow) hu hd hi
      exact ⟨trivial, .agg cs, this, .agg cs, h', k', rfl, rfl, hR⟩

theorem calls_of_Wc {f : FuncId} {fn : Func} {c : Code} {args : List Value} {R : Value → Hp → Prop} (hf : P.funcs[f]? = some fn) (hb : fn.body = some c) (hn : fn.ntmps = n) (hle : args.length ≤ n)
    (hc : Wc P w0 n c (fin fn n R) (enumL 0 args) h) (k : Nat) : Calls P f args.toArray (Wd w0 h k) fun e w'' => ∃ v h' k', e = .returned v ∧ w'' = Wd w0 h' k' ∧ R v h' := by
  refine calls_of_wp hf hb ?_
  subst hn
  rw [fr_init args fn.ntmps hle]
  refine Code.wp_mono ?_ (hc k)
  intro e a w ⟨L, h', k', e1, e2, q⟩
  subst e1; subst e2
  cases e <;> simp only [fin] at q <;> simp only [bodyPost]
  all_goals
    split at q
    · rename_i v hv
      exact ⟨trivial, v, resV_sound hv _, v, h', k', rfl, rfl, q⟩
    · cases q

theorem Inv_of_Wc {f : FuncId} {fn : Func} {c : Code} {args : List Value} {R : Value → Hp → Prop} (hf : P.funcs[f]? = some fn) (hb : fn.body = some c) (hn : fn.ntmps = n) (hle : args.length ≤ n) (hB : hasBody P f = true)
    (hc : Wc P w0 n c (fin fn n R) (enumL 0 args) h) : Inv P w0 f args.toArray h R :=
  Inv_of_calls hB fun k => calls_of_Wc hf hb hn hle hc k
end code
end Go.Fl
