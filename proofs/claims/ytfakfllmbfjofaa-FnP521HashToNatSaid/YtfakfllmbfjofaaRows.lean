/-
  No cell of these rows narrows 'for every input' (looked for: loops, veiled, ifaces, maps, wideKeys, modest, calm, conditions, laid).
  DERIVED. THE GIVEN ROWS OF THIS SEAT. 9 by the template 'for every input the law returns true; each argument reads behind the call as it read before'; 0 by the template 'total and deterministic' (their statements: YtfakfllmbfjofaaTotals.lean).
  GIVEN WITH THE SEED: the statements are not yours to turn. If you find one false, say at which input.
  Laid BY PROGRAM, IN A SANDBOX (cutbox-rows.mjs): the forced cells as the released guide's own fill.sh prints them over the translation 0577e43df1134e01… (all of the seat's roots in one cut). By AI agents, Wed Nov 11 2026. No macro, syntax, notation, axiom, sorry.
-/
import Derived.Test.YtfakfllmbfjofaaChecked
import GoSem.Claim
import GoSem.ClaimJoined
import GoSem.ClaimMapViews
import Derived.JoinedTies
import Derived.KernelRfl
namespace Go.Proofs.Ytfakfllmbfjofaa
/- THE CELL 'sum', in the pinned program and in every row, IS THE sha256 OF THE DUMP (.gsa) THAT YtfakfllmbfjofaaProg.lean LOADS. Nothing in Lean hashes anything: it is a label: what it is worth is what the hold of that sum in a sandbox is worth. -/
noncomputable def Try.pinned : Pinned := { name := "ytfakfllmbfjofaa", sum := "0577e43df1134e01d460c331dcad3013c92f5f12aa83eb8f8b71549cbe4fe26c", checked := Try.checked }
namespace Rows
def none {H : Type} : Left H := { results := [], args := [] }

/-- 'laws.FnP224Order': WHATEVER THE INPUT: true; the input reads as it did. -/
def fnP224OrderSpec : ChangeSpec := { name := "fnP224Order", fn := fun _ => fun
  | [d] => { results := [.lit (.bool true)], args := [d] }
  | _ => none }
def fnP224OrderRow : OpenClaim := { program := "ytfakfllmbfjofaa", sum := "0577e43df1134e01d460c331dcad3013c92f5f12aa83eb8f8b71549cbe4fe26c", func := "loop.example/pub-g03242/laws.FnP224Order", spec := "fnP224Order", inPlace := ["math/bits.Sub64", "math/bits.Add64"], apart := false }
def FnP224OrderSaid : Prop := fnP224OrderRow.holds Try.pinned (OpenSpec.ofChange fnP224OrderSpec)

/-- ITS FALSE NEIGHBOUR: 'it returns false'. Refute it at one input. -/
def fnP224OrderWrong : ChangeSpec := { name := "fnP224Order", fn := fun _ => fun
  | [d] => { results := [.lit (.bool false)], args := [d] }
  | _ => none }
def FnP224OrderWrongFalsely : Prop := fnP224OrderRow.holds Try.pinned (OpenSpec.ofChange fnP224OrderWrong)

/-- 'laws.FnP384Order': WHATEVER THE INPUT: true; the input reads as it did. -/
def fnP384OrderSpec : ChangeSpec := { name := "fnP384Order", fn := fun _ => fun
  | [d] => { results := [.lit (.bool true)], args := [d] }
  | _ => none }
def fnP384OrderRow : OpenClaim := { program := "ytfakfllmbfjofaa", sum := "0577e43df1134e01d460c331dcad3013c92f5f12aa83eb8f8b71549cbe4fe26c", func := "loop.example/pub-g03242/laws.FnP384Order", spec := "fnP384Order", inPlace := ["math/bits.Sub64", "math/bits.Add64"], apart := false }
def FnP384OrderSaid : Prop := fnP384OrderRow.holds Try.pinned (OpenSpec.ofChange fnP384OrderSpec)

/-- ITS FALSE NEIGHBOUR: 'it returns false'. Refute it at one input. -/
def fnP384OrderWrong : ChangeSpec := { name := "fnP384Order", fn := fun _ => fun
  | [d] => { results := [.lit (.bool false)], args := [d] }
  | _ => none }
def FnP384OrderWrongFalsely : Prop := fnP384OrderRow.holds Try.pinned (OpenSpec.ofChange fnP384OrderWrong)

/-- 'laws.FnP521Order': WHATEVER THE INPUT: true; the input reads as it did. -/
def fnP521OrderSpec : ChangeSpec := { name := "fnP521Order", fn := fun _ => fun
  | [d] => { results := [.lit (.bool true)], args := [d] }
  | _ => none }
def fnP521OrderRow : OpenClaim := { program := "ytfakfllmbfjofaa", sum := "0577e43df1134e01d460c331dcad3013c92f5f12aa83eb8f8b71549cbe4fe26c", func := "loop.example/pub-g03242/laws.FnP521Order", spec := "fnP521Order", inPlace := ["math/bits.Sub64", "math/bits.Add64"], apart := false }
def FnP521OrderSaid : Prop := fnP521OrderRow.holds Try.pinned (OpenSpec.ofChange fnP521OrderSpec)

/-- ITS FALSE NEIGHBOUR: 'it returns false'. Refute it at one input. -/
def fnP521OrderWrong : ChangeSpec := { name := "fnP521Order", fn := fun _ => fun
  | [d] => { results := [.lit (.bool false)], args := [d] }
  | _ => none }
def FnP521OrderWrongFalsely : Prop := fnP521OrderRow.holds Try.pinned (OpenSpec.ofChange fnP521OrderWrong)

/-- 'laws.FnP224HashToNat': WHATEVER THE INPUT: true; the input reads as it did. -/
def fnP224HashToNatSpec : ChangeSpec := { name := "fnP224HashToNat", fn := fun _ => fun
  | [d] => { results := [.lit (.bool true)], args := [d] }
  | _ => none }
def fnP224HashToNatRow : OpenClaim := { program := "ytfakfllmbfjofaa", sum := "0577e43df1134e01d460c331dcad3013c92f5f12aa83eb8f8b71549cbe4fe26c", func := "loop.example/pub-g03242/laws.FnP224HashToNat", spec := "fnP224HashToNat", inPlace := ["math/bits.Sub64", "math/bits.Add64"], apart := false }
def FnP224HashToNatSaid : Prop := fnP224HashToNatRow.holds Try.pinned (OpenSpec.ofChange fnP224HashToNatSpec)

/-- ITS FALSE NEIGHBOUR: 'it returns false'. Refute it at one input. -/
def fnP224HashToNatWrong : ChangeSpec := { name := "fnP224HashToNat", fn := fun _ => fun
  | [d] => { results := [.lit (.bool false)], args := [d] }
  | _ => none }
def FnP224HashToNatWrongFalsely : Prop := fnP224HashToNatRow.holds Try.pinned (OpenSpec.ofChange fnP224HashToNatWrong)

/-- 'laws.FnP384HashToNat': WHATEVER THE INPUT: true; the input reads as it did. -/
def fnP384HashToNatSpec : ChangeSpec := { name := "fnP384HashToNat", fn := fun _ => fun
  | [d] => { results := [.lit (.bool true)], args := [d] }
  | _ => none }
def fnP384HashToNatRow : OpenClaim := { program := "ytfakfllmbfjofaa", sum := "0577e43df1134e01d460c331dcad3013c92f5f12aa83eb8f8b71549cbe4fe26c", func := "loop.example/pub-g03242/laws.FnP384HashToNat", spec := "fnP384HashToNat", inPlace := ["math/bits.Sub64", "math/bits.Add64"], apart := false }
def FnP384HashToNatSaid : Prop := fnP384HashToNatRow.holds Try.pinned (OpenSpec.ofChange fnP384HashToNatSpec)

/-- ITS FALSE NEIGHBOUR: 'it returns false'. Refute it at one input. -/
def fnP384HashToNatWrong : ChangeSpec := { name := "fnP384HashToNat", fn := fun _ => fun
  | [d] => { results := [.lit (.bool false)], args := [d] }
  | _ => none }
def FnP384HashToNatWrongFalsely : Prop := fnP384HashToNatRow.holds Try.pinned (OpenSpec.ofChange fnP384HashToNatWrong)

/-- 'laws.FnP521HashToNat': WHATEVER THE INPUT: true; the input reads as it did. -/
def fnP521HashToNatSpec : ChangeSpec := { name := "fnP521HashToNat", fn := fun _ => fun
  | [d] => { results := [.lit (.bool true)], args := [d] }
  | _ => none }
def fnP521HashToNatRow : OpenClaim := { program := "ytfakfllmbfjofaa", sum := "0577e43df1134e01d460c331dcad3013c92f5f12aa83eb8f8b71549cbe4fe26c", func := "loop.example/pub-g03242/laws.FnP521HashToNat", spec := "fnP521HashToNat", inPlace := ["math/bits.Sub64", "math/bits.Add64"], apart := false }
def FnP521HashToNatSaid : Prop := fnP521HashToNatRow.holds Try.pinned (OpenSpec.ofChange fnP521HashToNatSpec)

/-- ITS FALSE NEIGHBOUR: 'it returns false'. Refute it at one input. -/
def fnP521HashToNatWrong : ChangeSpec := { name := "fnP521HashToNat", fn := fun _ => fun
  | [d] => { results := [.lit (.bool false)], args := [d] }
  | _ => none }
def FnP521HashToNatWrongFalsely : Prop := fnP521HashToNatRow.holds Try.pinned (OpenSpec.ofChange fnP521HashToNatWrong)

/-- 'laws.FnP224Inverse': WHATEVER THE INPUT: true; the input reads as it did. -/
def fnP224InverseSpec : ChangeSpec := { name := "fnP224Inverse", fn := fun _ => fun
  | [d] => { results := [.lit (.bool true)], args := [d] }
  | _ => none }
def fnP224InverseRow : OpenClaim := { program := "ytfakfllmbfjofaa", sum := "0577e43df1134e01d460c331dcad3013c92f5f12aa83eb8f8b71549cbe4fe26c", func := "loop.example/pub-g03242/laws.FnP224Inverse", spec := "fnP224Inverse", inPlace := ["math/bits.Sub64", "math/bits.Add64"], unfollowed := true, recurses := true, apart := false }
def FnP224InverseSaid : Prop := fnP224InverseRow.holds Try.pinned (OpenSpec.ofChange fnP224InverseSpec)

/-- ITS FALSE NEIGHBOUR: 'it returns false'. Refute it at one input. -/
def fnP224InverseWrong : ChangeSpec := { name := "fnP224Inverse", fn := fun _ => fun
  | [d] => { results := [.lit (.bool false)], args := [d] }
  | _ => none }
def FnP224InverseWrongFalsely : Prop := fnP224InverseRow.holds Try.pinned (OpenSpec.ofChange fnP224InverseWrong)

/-- 'laws.FnP384Inverse': WHATEVER THE INPUT: true; the input reads as it did. -/
def fnP384InverseSpec : ChangeSpec := { name := "fnP384Inverse", fn := fun _ => fun
  | [d] => { results := [.lit (.bool true)], args := [d] }
  | _ => none }
def fnP384InverseRow : OpenClaim := { program := "ytfakfllmbfjofaa", sum := "0577e43df1134e01d460c331dcad3013c92f5f12aa83eb8f8b71549cbe4fe26c", func := "loop.example/pub-g03242/laws.FnP384Inverse", spec := "fnP384Inverse", inPlace := ["math/bits.Sub64", "math/bits.Add64"], unfollowed := true, recurses := true, apart := false }
def FnP384InverseSaid : Prop := fnP384InverseRow.holds Try.pinned (OpenSpec.ofChange fnP384InverseSpec)

/-- ITS FALSE NEIGHBOUR: 'it returns false'. Refute it at one input. -/
def fnP384InverseWrong : ChangeSpec := { name := "fnP384Inverse", fn := fun _ => fun
  | [d] => { results := [.lit (.bool false)], args := [d] }
  | _ => none }
def FnP384InverseWrongFalsely : Prop := fnP384InverseRow.holds Try.pinned (OpenSpec.ofChange fnP384InverseWrong)

/-- 'laws.FnP521Inverse': WHATEVER THE INPUT: true; the input reads as it did. -/
def fnP521InverseSpec : ChangeSpec := { name := "fnP521Inverse", fn := fun _ => fun
  | [d] => { results := [.lit (.bool true)], args := [d] }
  | _ => none }
def fnP521InverseRow : OpenClaim := { program := "ytfakfllmbfjofaa", sum := "0577e43df1134e01d460c331dcad3013c92f5f12aa83eb8f8b71549cbe4fe26c", func := "loop.example/pub-g03242/laws.FnP521Inverse", spec := "fnP521Inverse", inPlace := ["math/bits.Sub64", "math/bits.Add64"], unfollowed := true, recurses := true, apart := false }
def FnP521InverseSaid : Prop := fnP521InverseRow.holds Try.pinned (OpenSpec.ofChange fnP521InverseSpec)

/-- ITS FALSE NEIGHBOUR: 'it returns false'. Refute it at one input. -/
def fnP521InverseWrong : ChangeSpec := { name := "fnP521Inverse", fn := fun _ => fun
  | [d] => { results := [.lit (.bool false)], args := [d] }
  | _ => none }
def FnP521InverseWrongFalsely : Prop := fnP521InverseRow.holds Try.pinned (OpenSpec.ofChange fnP521InverseWrong)

/- THE SECOND FORM. 'bulk': how many values and letters a reading holds, each counted each time it is reached (what is shared counts as often as it is met; a slice's spare places count too). A statement '..UptoSaid' is the law's where the arguments, and the package variables that the reading takes, are together of bulk at most 1048576: NARROWER than '..Said'. Prove '..Said' where nothing that the law and all that it calls make is longer than what came in: it says more and counts as full. Else prove '..UptoSaid'. A law counts once. -/
mutual
def uptoBulk {H : Type} : DataW H → Nat
  | .lit (.string bytes) => bytes.length + 1
  | .lit _ => 1
  | .nil => 1
  | .ptr d => uptoBulk d + 1
  | .slice elems spare => uptoBulkAll elems + uptoBulkAll spare + 1
  | .agg parts => uptoBulkAll parts + 1
  | .iface _ d => uptoBulk d + 1
  | .map entries => uptoBulkEntries entries + 1
  | .held _ => 1
def uptoBulkAll {H : Type} : List (DataW H) → Nat
  | [] => 0
  | d :: r => uptoBulk d + uptoBulkAll r
def uptoBulkEntries {H : Type} : List (Lit × DataW H) → Nat
  | [] => 0
  | x :: r => uptoBulkEntry x + uptoBulkEntries r
def uptoBulkEntry {H : Type} : Lit × DataW H → Nat
  | (.string bytes, d) => bytes.length + uptoBulk d + 1
  | (_, d) => uptoBulk d + 1
 end
def uptoSmall : (H : Type) → List (DataW H) → Bool := fun _ ds => decide (uptoBulkAll ds ≤ 1048576)
def OpenSpec.upto (s : _root_.Go.ChangeSpec) : _root_.Go.OpenSpec := { _root_.Go.OpenSpec.ofChange s with cond := some uptoSmall }

/-- 'laws.FnP224Order', WHERE WHAT IT READS IS OF BULK AT MOST 1048576: true; the input reads as it did. -/
def fnP224OrderUptoRow : OpenClaim := { program := "ytfakfllmbfjofaa", sum := "0577e43df1134e01d460c331dcad3013c92f5f12aa83eb8f8b71549cbe4fe26c", func := "loop.example/pub-g03242/laws.FnP224Order", spec := "fnP224Order", inPlace := ["math/bits.Sub64", "math/bits.Add64"], apart := false, narrowed := true }
def FnP224OrderUptoSaid : Prop := fnP224OrderUptoRow.holds Try.pinned (OpenSpec.upto fnP224OrderSpec)

/-- 'laws.FnP384Order', WHERE WHAT IT READS IS OF BULK AT MOST 1048576: true; the input reads as it did. -/
def fnP384OrderUptoRow : OpenClaim := { program := "ytfakfllmbfjofaa", sum := "0577e43df1134e01d460c331dcad3013c92f5f12aa83eb8f8b71549cbe4fe26c", func := "loop.example/pub-g03242/laws.FnP384Order", spec := "fnP384Order", inPlace := ["math/bits.Sub64", "math/bits.Add64"], apart := false, narrowed := true }
def FnP384OrderUptoSaid : Prop := fnP384OrderUptoRow.holds Try.pinned (OpenSpec.upto fnP384OrderSpec)

/-- 'laws.FnP521Order', WHERE WHAT IT READS IS OF BULK AT MOST 1048576: true; the input reads as it did. -/
def fnP521OrderUptoRow : OpenClaim := { program := "ytfakfllmbfjofaa", sum := "0577e43df1134e01d460c331dcad3013c92f5f12aa83eb8f8b71549cbe4fe26c", func := "loop.example/pub-g03242/laws.FnP521Order", spec := "fnP521Order", inPlace := ["math/bits.Sub64", "math/bits.Add64"], apart := false, narrowed := true }
def FnP521OrderUptoSaid : Prop := fnP521OrderUptoRow.holds Try.pinned (OpenSpec.upto fnP521OrderSpec)

/-- 'laws.FnP224HashToNat', WHERE WHAT IT READS IS OF BULK AT MOST 1048576: true; the input reads as it did. -/
def fnP224HashToNatUptoRow : OpenClaim := { program := "ytfakfllmbfjofaa", sum := "0577e43df1134e01d460c331dcad3013c92f5f12aa83eb8f8b71549cbe4fe26c", func := "loop.example/pub-g03242/laws.FnP224HashToNat", spec := "fnP224HashToNat", inPlace := ["math/bits.Sub64", "math/bits.Add64"], apart := false, narrowed := true }
def FnP224HashToNatUptoSaid : Prop := fnP224HashToNatUptoRow.holds Try.pinned (OpenSpec.upto fnP224HashToNatSpec)

/-- 'laws.FnP384HashToNat', WHERE WHAT IT READS IS OF BULK AT MOST 1048576: true; the input reads as it did. -/
def fnP384HashToNatUptoRow : OpenClaim := { program := "ytfakfllmbfjofaa", sum := "0577e43df1134e01d460c331dcad3013c92f5f12aa83eb8f8b71549cbe4fe26c", func := "loop.example/pub-g03242/laws.FnP384HashToNat", spec := "fnP384HashToNat", inPlace := ["math/bits.Sub64", "math/bits.Add64"], apart := false, narrowed := true }
def FnP384HashToNatUptoSaid : Prop := fnP384HashToNatUptoRow.holds Try.pinned (OpenSpec.upto fnP384HashToNatSpec)

/-- 'laws.FnP521HashToNat', WHERE WHAT IT READS IS OF BULK AT MOST 1048576: true; the input reads as it did. -/
def fnP521HashToNatUptoRow : OpenClaim := { program := "ytfakfllmbfjofaa", sum := "0577e43df1134e01d460c331dcad3013c92f5f12aa83eb8f8b71549cbe4fe26c", func := "loop.example/pub-g03242/laws.FnP521HashToNat", spec := "fnP521HashToNat", inPlace := ["math/bits.Sub64", "math/bits.Add64"], apart := false, narrowed := true }
def FnP521HashToNatUptoSaid : Prop := fnP521HashToNatUptoRow.holds Try.pinned (OpenSpec.upto fnP521HashToNatSpec)

/-- 'laws.FnP224Inverse', WHERE WHAT IT READS IS OF BULK AT MOST 1048576: true; the input reads as it did. -/
def fnP224InverseUptoRow : OpenClaim := { program := "ytfakfllmbfjofaa", sum := "0577e43df1134e01d460c331dcad3013c92f5f12aa83eb8f8b71549cbe4fe26c", func := "loop.example/pub-g03242/laws.FnP224Inverse", spec := "fnP224Inverse", inPlace := ["math/bits.Sub64", "math/bits.Add64"], unfollowed := true, recurses := true, apart := false, narrowed := true }
def FnP224InverseUptoSaid : Prop := fnP224InverseUptoRow.holds Try.pinned (OpenSpec.upto fnP224InverseSpec)

/-- 'laws.FnP384Inverse', WHERE WHAT IT READS IS OF BULK AT MOST 1048576: true; the input reads as it did. -/
def fnP384InverseUptoRow : OpenClaim := { program := "ytfakfllmbfjofaa", sum := "0577e43df1134e01d460c331dcad3013c92f5f12aa83eb8f8b71549cbe4fe26c", func := "loop.example/pub-g03242/laws.FnP384Inverse", spec := "fnP384Inverse", inPlace := ["math/bits.Sub64", "math/bits.Add64"], unfollowed := true, recurses := true, apart := false, narrowed := true }
def FnP384InverseUptoSaid : Prop := fnP384InverseUptoRow.holds Try.pinned (OpenSpec.upto fnP384InverseSpec)

/-- 'laws.FnP521Inverse', WHERE WHAT IT READS IS OF BULK AT MOST 1048576: true; the input reads as it did. -/
def fnP521InverseUptoRow : OpenClaim := { program := "ytfakfllmbfjofaa", sum := "0577e43df1134e01d460c331dcad3013c92f5f12aa83eb8f8b71549cbe4fe26c", func := "loop.example/pub-g03242/laws.FnP521Inverse", spec := "fnP521Inverse", inPlace := ["math/bits.Sub64", "math/bits.Add64"], unfollowed := true, recurses := true, apart := false, narrowed := true }
def FnP521InverseUptoSaid : Prop := fnP521InverseUptoRow.holds Try.pinned (OpenSpec.upto fnP521InverseSpec)

end Rows
end Go.Proofs.Ytfakfllmbfjofaa
