/-
  No cell of these rows narrows 'for every input' (looked for: loops, veiled, ifaces, maps, wideKeys, modest, calm, conditions, laid).
  DERIVED. THE GIVEN ROWS OF THIS SEAT. 4 by the template 'for every input the law returns true; each argument reads behind the call as it read before'; 0 by the template 'total and deterministic' (their statements: YtkmjhapkmhmonaaTotals.lean).
  GIVEN WITH THE SEED: the statements are not yours to turn. If you find one false, say at which input.
  Laid BY PROGRAM, IN A SANDBOX (cutbox-rows.mjs): the forced cells as the released guide's own fill.sh prints them over the translation 843fcac15248cd3f… (all of the seat's roots in one cut). By AI agents, Wed Nov 11 2026. No macro, syntax, notation, axiom, sorry.
-/
import Derived.Test.YtkmjhapkmhmonaaChecked
import GoSem.Claim
import GoSem.ClaimJoined
import GoSem.ClaimMapViews
import Derived.JoinedTies
import Derived.KernelRfl
namespace Go.Proofs.Ytkmjhapkmhmonaa
/- THE CELL 'sum', in the pinned program and in every row, IS THE sha256 OF THE DUMP (.gsa) THAT YtkmjhapkmhmonaaProg.lean LOADS. Nothing in Lean hashes anything: it is a label: what it is worth is what the hold of that sum in a sandbox is worth. -/
noncomputable def Try.pinned : Pinned := { name := "ytkmjhapkmhmonaa", sum := "843fcac15248cd3fe4e5f70d6e0c150835a5cb022a6427f80df7193381888226", checked := Try.checked }
namespace Rows
def none {H : Type} : Left H := { results := [], args := [] }

/-- 'laws.FnRightShift': WHATEVER THE INPUT: true; the input reads as it did. -/
def fnRightShiftSpec : ChangeSpec := { name := "fnRightShift", fn := fun _ => fun
  | [d1, d2] => { results := [.lit (.bool true)], args := [d1, d2] }
  | _ => none }
def fnRightShiftRow : OpenClaim := { program := "ytkmjhapkmhmonaa", sum := "843fcac15248cd3fe4e5f70d6e0c150835a5cb022a6427f80df7193381888226", func := "loop.example/pub-g03242/laws.FnRightShift", spec := "fnRightShift", apart := false }
def FnRightShiftSaid : Prop := fnRightShiftRow.holds Try.pinned (OpenSpec.ofChange fnRightShiftSpec)

/-- ITS FALSE NEIGHBOUR: 'it returns false'. Refute it at one input. -/
def fnRightShiftWrong : ChangeSpec := { name := "fnRightShift", fn := fun _ => fun
  | [d1, d2] => { results := [.lit (.bool false)], args := [d1, d2] }
  | _ => none }
def FnRightShiftWrongFalsely : Prop := fnRightShiftRow.holds Try.pinned (OpenSpec.ofChange fnRightShiftWrong)

/-- 'laws.FnSum': WHATEVER THE INPUT: true; the input reads as it did. -/
def fnSumSpec : ChangeSpec := { name := "fnSum", fn := fun _ => fun
  | [d1, d2] => { results := [.lit (.bool true)], args := [d1, d2] }
  | _ => none }
def fnSumRow : OpenClaim := { program := "ytkmjhapkmhmonaa", sum := "843fcac15248cd3fe4e5f70d6e0c150835a5cb022a6427f80df7193381888226", func := "loop.example/pub-g03242/laws.FnSum", spec := "fnSum", unfollowed := true, recurses := true, apart := false }
def FnSumSaid : Prop := fnSumRow.holds Try.pinned (OpenSpec.ofChange fnSumSpec)

/-- ITS FALSE NEIGHBOUR: 'it returns false'. Refute it at one input. -/
def fnSumWrong : ChangeSpec := { name := "fnSum", fn := fun _ => fun
  | [d1, d2] => { results := [.lit (.bool false)], args := [d1, d2] }
  | _ => none }
def FnSumWrongFalsely : Prop := fnSumRow.holds Try.pinned (OpenSpec.ofChange fnSumWrong)

/-- 'laws.FnGenerate': WHATEVER THE INPUT: true; the input reads as it did. -/
def fnGenerateSpec : ChangeSpec := { name := "fnGenerate", fn := fun _ => fun
  | [d1, d2, d3, d4, d5] => { results := [.lit (.bool true)], args := [d1, d2, d3, d4, d5] }
  | _ => none }
def fnGenerateRow : OpenClaim := { program := "ytkmjhapkmhmonaa", sum := "843fcac15248cd3fe4e5f70d6e0c150835a5cb022a6427f80df7193381888226", func := "loop.example/pub-g03242/laws.FnGenerate", spec := "fnGenerate", inPlace := ["internal/bytealg.MakeNoZero"], unfollowed := true, recurses := true, apart := false }
def FnGenerateSaid : Prop := fnGenerateRow.holds Try.pinned (OpenSpec.ofChange fnGenerateSpec)

/-- ITS FALSE NEIGHBOUR: 'it returns false'. Refute it at one input. -/
def fnGenerateWrong : ChangeSpec := { name := "fnGenerate", fn := fun _ => fun
  | [d1, d2, d3, d4, d5] => { results := [.lit (.bool false)], args := [d1, d2, d3, d4, d5] }
  | _ => none }
def FnGenerateWrongFalsely : Prop := fnGenerateRow.holds Try.pinned (OpenSpec.ofChange fnGenerateWrong)

/-- 'laws.FnGenerateJoined': WHATEVER THE INPUT: true; the input reads as it did. -/
def fnGenerateJoinedSpec : ChangeSpec := { name := "fnGenerateJoined", fn := fun _ => fun
  | [d1, d2, d3, d4, d5] => { results := [.lit (.bool true)], args := [d1, d2, d3, d4, d5] }
  | _ => none }
def fnGenerateJoinedRow : OpenClaim := { program := "ytkmjhapkmhmonaa", sum := "843fcac15248cd3fe4e5f70d6e0c150835a5cb022a6427f80df7193381888226", func := "loop.example/pub-g03242/laws.FnGenerateJoined", spec := "fnGenerateJoined", inPlace := ["internal/bytealg.MakeNoZero"], unfollowed := true, recurses := true, apart := false }
def FnGenerateJoinedSaid : Prop := fnGenerateJoinedRow.holds Try.pinned (OpenSpec.ofChange fnGenerateJoinedSpec)

/-- ITS FALSE NEIGHBOUR: 'it returns false'. Refute it at one input. -/
def fnGenerateJoinedWrong : ChangeSpec := { name := "fnGenerateJoined", fn := fun _ => fun
  | [d1, d2, d3, d4, d5] => { results := [.lit (.bool false)], args := [d1, d2, d3, d4, d5] }
  | _ => none }
def FnGenerateJoinedWrongFalsely : Prop := fnGenerateJoinedRow.holds Try.pinned (OpenSpec.ofChange fnGenerateJoinedWrong)

/- THE SECOND FORM. 'bulk': how many values and letters a reading holds, each counted each time it is reached (what is shared counts as often as it is met; a slice's spare places count too). A statement '..UptoSaid' is the law's where the arguments, and the package variables that the reading takes, are together of bulk at most 1048576: NARROWER than '..Said'. Prove '..Said' where nothing that the law and all that it calls make is longer than what came in: it says more and counts as full. Else prove '..UptoSaid'. A law counts once. -/
mutual
def uptoBulk {H : Type} : DataW H → Nat
  | .lit (.string bytes) => bytes.length + 1
  | .lit _ => 1
  | .nil => 1
  | .ptr d => uptoBulk d + 1
  | .slice elems spare => uptoBulkAll elems + uptoBulkAll spare + 1
  | .agg parts => uptoBulkAll parts + 1
  | .iface _ d => uptoBulk d + 1
  | .map entries => uptoBulkEntries entries + 1
  | .held _ => 1
def uptoBulkAll {H : Type} : List (DataW H) → Nat
  | [] => 0
  | d :: r => uptoBulk d + uptoBulkAll r
def uptoBulkEntries {H : Type} : List (Lit × DataW H) → Nat
  | [] => 0
  | x :: r => uptoBulkEntry x + uptoBulkEntries r
def uptoBulkEntry {H : Type} : Lit × DataW H → Nat
  | (.string bytes, d) => bytes.length + uptoBulk d + 1
  | (_, d) => uptoBulk d + 1
 end
def uptoSmall : (H : Type) → List (DataW H) → Bool := fun _ ds => decide (uptoBulkAll ds ≤ 1048576)
def OpenSpec.upto (s : _root_.Go.ChangeSpec) : _root_.Go.OpenSpec := { _root_.Go.OpenSpec.ofChange s with cond := some uptoSmall }

/-- 'laws.FnRightShift', WHERE WHAT IT READS IS OF BULK AT MOST 1048576: true; the input reads as it did. -/
def fnRightShiftUptoRow : OpenClaim := { program := "ytkmjhapkmhmonaa", sum := "843fcac15248cd3fe4e5f70d6e0c150835a5cb022a6427f80df7193381888226", func := "loop.example/pub-g03242/laws.FnRightShift", spec := "fnRightShift", apart := false, narrowed := true }
def FnRightShiftUptoSaid : Prop := fnRightShiftUptoRow.holds Try.pinned (OpenSpec.upto fnRightShiftSpec)

/-- 'laws.FnSum', WHERE WHAT IT READS IS OF BULK AT MOST 1048576: true; the input reads as it did. -/
def fnSumUptoRow : OpenClaim := { program := "ytkmjhapkmhmonaa", sum := "843fcac15248cd3fe4e5f70d6e0c150835a5cb022a6427f80df7193381888226", func := "loop.example/pub-g03242/laws.FnSum", spec := "fnSum", unfollowed := true, recurses := true, apart := false, narrowed := true }
def FnSumUptoSaid : Prop := fnSumUptoRow.holds Try.pinned (OpenSpec.upto fnSumSpec)

/-- 'laws.FnGenerate', WHERE WHAT IT READS IS OF BULK AT MOST 1048576: true; the input reads as it did. -/
def fnGenerateUptoRow : OpenClaim := { program := "ytkmjhapkmhmonaa", sum := "843fcac15248cd3fe4e5f70d6e0c150835a5cb022a6427f80df7193381888226", func := "loop.example/pub-g03242/laws.FnGenerate", spec := "fnGenerate", inPlace := ["internal/bytealg.MakeNoZero"], unfollowed := true, recurses := true, apart := false, narrowed := true }
def FnGenerateUptoSaid : Prop := fnGenerateUptoRow.holds Try.pinned (OpenSpec.upto fnGenerateSpec)

/-- 'laws.FnGenerateJoined', WHERE WHAT IT READS IS OF BULK AT MOST 1048576: true; the input reads as it did. -/
def fnGenerateJoinedUptoRow : OpenClaim := { program := "ytkmjhapkmhmonaa", sum := "843fcac15248cd3fe4e5f70d6e0c150835a5cb022a6427f80df7193381888226", func := "loop.example/pub-g03242/laws.FnGenerateJoined", spec := "fnGenerateJoined", inPlace := ["internal/bytealg.MakeNoZero"], unfollowed := true, recurses := true, apart := false, narrowed := true }
def FnGenerateJoinedUptoSaid : Prop := fnGenerateJoinedUptoRow.holds Try.pinned (OpenSpec.upto fnGenerateJoinedSpec)

end Rows
end Go.Proofs.Ytkmjhapkmhmonaa
