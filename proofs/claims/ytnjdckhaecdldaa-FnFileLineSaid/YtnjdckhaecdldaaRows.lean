/-
  No cell of these rows narrows 'for every input' (looked for: loops, veiled, ifaces, maps, wideKeys, modest, calm, conditions, laid).
  DERIVED. THE GIVEN ROWS OF THIS SEAT. 5 by the template 'for every input the law returns true; each argument reads behind the call as it read before'; 0 by the template 'total and deterministic' (their statements: YtnjdckhaecdldaaTotals.lean).
  GIVEN WITH THE SEED: the statements are not yours to turn. If you find one false, say at which input.
  Laid BY PROGRAM, IN A SANDBOX (cutbox-rows.mjs): the forced cells as the released guide's own fill.sh prints them over the translation d22983fd76b42318… (all of the seat's roots in one cut). By AI agents, Wed Nov 11 2026. No macro, syntax, notation, axiom, sorry.
-/
import Derived.Test.YtnjdckhaecdldaaChecked
import GoSem.Claim
import GoSem.ClaimJoined
import GoSem.ClaimMapViews
import Derived.JoinedTies
import Derived.KernelRfl
namespace Go.Proofs.Ytnjdckhaecdldaa
/- THE CELL 'sum', in the pinned program and in every row, IS THE sha256 OF THE DUMP (.gsa) THAT YtnjdckhaecdldaaProg.lean LOADS. Nothing in Lean hashes anything: it is a label: what it is worth is what the hold of that sum in a sandbox is worth. -/
noncomputable def Try.pinned : Pinned := { name := "ytnjdckhaecdldaa", sum := "d22983fd76b42318d6ca6a31461b187a5aa696464b7868e5cbd3e720a0971f74", checked := Try.checked }
namespace Rows
def none {H : Type} : Left H := { results := [], args := [] }

/-- 'laws.FnFileLine': WHATEVER THE INPUT: true; the input reads as it did. -/
def fnFileLineSpec : ChangeSpec := { name := "fnFileLine", fn := fun _ => fun
  | [d1, d2, d3] => { results := [.lit (.bool true)], args := [d1, d2, d3] }
  | _ => none }
def fnFileLineRow : OpenClaim := { program := "ytnjdckhaecdldaa", sum := "d22983fd76b42318d6ca6a31461b187a5aa696464b7868e5cbd3e720a0971f74", func := "loop.example/pub-g01456/laws.FnFileLine", spec := "fnFileLine", unfollowed := true, recurses := true, apart := false }
def FnFileLineSaid : Prop := fnFileLineRow.holds Try.pinned (OpenSpec.ofChange fnFileLineSpec)

/-- ITS FALSE NEIGHBOUR: 'it returns false'. Refute it at one input. -/
def fnFileLineWrong : ChangeSpec := { name := "fnFileLine", fn := fun _ => fun
  | [d1, d2, d3] => { results := [.lit (.bool false)], args := [d1, d2, d3] }
  | _ => none }
def FnFileLineWrongFalsely : Prop := fnFileLineRow.holds Try.pinned (OpenSpec.ofChange fnFileLineWrong)

/-- 'laws.FnPatternConditions': WHATEVER THE INPUT: true; the input reads as it did. -/
def fnPatternConditionsSpec : ChangeSpec := { name := "fnPatternConditions", fn := fun _ => fun
  | [d] => { results := [.lit (.bool true)], args := [d] }
  | _ => none }
def fnPatternConditionsRow : OpenClaim := { program := "ytnjdckhaecdldaa", sum := "d22983fd76b42318d6ca6a31461b187a5aa696464b7868e5cbd3e720a0971f74", func := "loop.example/pub-g01456/laws.FnPatternConditions", spec := "fnPatternConditions", apart := false }
def FnPatternConditionsSaid : Prop := fnPatternConditionsRow.holds Try.pinned (OpenSpec.ofChange fnPatternConditionsSpec)

/-- ITS FALSE NEIGHBOUR: 'it returns false'. Refute it at one input. -/
def fnPatternConditionsWrong : ChangeSpec := { name := "fnPatternConditions", fn := fun _ => fun
  | [d] => { results := [.lit (.bool false)], args := [d] }
  | _ => none }
def FnPatternConditionsWrongFalsely : Prop := fnPatternConditionsRow.holds Try.pinned (OpenSpec.ofChange fnPatternConditionsWrong)

/-- 'laws.FnPatternLast': WHATEVER THE INPUT: true; the input reads as it did. -/
def fnPatternLastSpec : ChangeSpec := { name := "fnPatternLast", fn := fun _ => fun
  | [d1, d2, d3] => { results := [.lit (.bool true)], args := [d1, d2, d3] }
  | _ => none }
def fnPatternLastRow : OpenClaim := { program := "ytnjdckhaecdldaa", sum := "d22983fd76b42318d6ca6a31461b187a5aa696464b7868e5cbd3e720a0971f74", func := "loop.example/pub-g01456/laws.FnPatternLast", spec := "fnPatternLast", apart := false }
def FnPatternLastSaid : Prop := fnPatternLastRow.holds Try.pinned (OpenSpec.ofChange fnPatternLastSpec)

/-- ITS FALSE NEIGHBOUR: 'it returns false'. Refute it at one input. -/
def fnPatternLastWrong : ChangeSpec := { name := "fnPatternLast", fn := fun _ => fun
  | [d1, d2, d3] => { results := [.lit (.bool false)], args := [d1, d2, d3] }
  | _ => none }
def FnPatternLastWrongFalsely : Prop := fnPatternLastRow.holds Try.pinned (OpenSpec.ofChange fnPatternLastWrong)

/-- 'laws.FnPatternOther': WHATEVER THE INPUT: true; the input reads as it did. -/
def fnPatternOtherSpec : ChangeSpec := { name := "fnPatternOther", fn := fun _ => fun
  | [d1, d2, d3, d4] => { results := [.lit (.bool true)], args := [d1, d2, d3, d4] }
  | _ => none }
def fnPatternOtherRow : OpenClaim := { program := "ytnjdckhaecdldaa", sum := "d22983fd76b42318d6ca6a31461b187a5aa696464b7868e5cbd3e720a0971f74", func := "loop.example/pub-g01456/laws.FnPatternOther", spec := "fnPatternOther", apart := false }
def FnPatternOtherSaid : Prop := fnPatternOtherRow.holds Try.pinned (OpenSpec.ofChange fnPatternOtherSpec)

/-- ITS FALSE NEIGHBOUR: 'it returns false'. Refute it at one input. -/
def fnPatternOtherWrong : ChangeSpec := { name := "fnPatternOther", fn := fun _ => fun
  | [d1, d2, d3, d4] => { results := [.lit (.bool false)], args := [d1, d2, d3, d4] }
  | _ => none }
def FnPatternOtherWrongFalsely : Prop := fnPatternOtherRow.holds Try.pinned (OpenSpec.ofChange fnPatternOtherWrong)

/-- 'laws.FnPatternParts': WHATEVER THE INPUT: true; the input reads as it did. -/
def fnPatternPartsSpec : ChangeSpec := { name := "fnPatternParts", fn := fun _ => fun
  | [d1, d2] => { results := [.lit (.bool true)], args := [d1, d2] }
  | _ => none }
def fnPatternPartsRow : OpenClaim := { program := "ytnjdckhaecdldaa", sum := "d22983fd76b42318d6ca6a31461b187a5aa696464b7868e5cbd3e720a0971f74", func := "loop.example/pub-g01456/laws.FnPatternParts", spec := "fnPatternParts", apart := false }
def FnPatternPartsSaid : Prop := fnPatternPartsRow.holds Try.pinned (OpenSpec.ofChange fnPatternPartsSpec)

/-- ITS FALSE NEIGHBOUR: 'it returns false'. Refute it at one input. -/
def fnPatternPartsWrong : ChangeSpec := { name := "fnPatternParts", fn := fun _ => fun
  | [d1, d2] => { results := [.lit (.bool false)], args := [d1, d2] }
  | _ => none }
def FnPatternPartsWrongFalsely : Prop := fnPatternPartsRow.holds Try.pinned (OpenSpec.ofChange fnPatternPartsWrong)

/- THE SECOND FORM. 'bulk': how many values and letters a reading holds, each counted each time it is reached (what is shared counts as often as it is met; a slice's spare places count too). A statement '..UptoSaid' is the law's where the arguments, and the package variables that the reading takes, are together of bulk at most 1048576: NARROWER than '..Said'. Prove '..Said' where nothing that the law and all that it calls make is longer than what came in: it says more and counts as full. Else prove '..UptoSaid'. A law counts once. -/
mutual
def uptoBulk {H : Type} : DataW H → Nat
  | .lit (.string bytes) => bytes.length + 1
  | .lit _ => 1
  | .nil => 1
  | .ptr d => uptoBulk d + 1
  | .slice elems spare => uptoBulkAll elems + uptoBulkAll spare + 1
  | .agg parts => uptoBulkAll parts + 1
  | .iface _ d => uptoBulk d + 1
  | .map entries => uptoBulkEntries entries + 1
  | .held _ => 1
def uptoBulkAll {H : Type} : List (DataW H) → Nat
  | [] => 0
  | d :: r => uptoBulk d + uptoBulkAll r
def uptoBulkEntries {H : Type} : List (Lit × DataW H) → Nat
  | [] => 0
  | x :: r => uptoBulkEntry x + uptoBulkEntries r
def uptoBulkEntry {H : Type} : Lit × DataW H → Nat
  | (.string bytes, d) => bytes.length + uptoBulk d + 1
  | (_, d) => uptoBulk d + 1
 end
def uptoSmall : (H : Type) → List (DataW H) → Bool := fun _ ds => decide (uptoBulkAll ds ≤ 1048576)
def OpenSpec.upto (s : _root_.Go.ChangeSpec) : _root_.Go.OpenSpec := { _root_.Go.OpenSpec.ofChange s with cond := some uptoSmall }

/-- 'laws.FnFileLine', WHERE WHAT IT READS IS OF BULK AT MOST 1048576: true; the input reads as it did. -/
def fnFileLineUptoRow : OpenClaim := { program := "ytnjdckhaecdldaa", sum := "d22983fd76b42318d6ca6a31461b187a5aa696464b7868e5cbd3e720a0971f74", func := "loop.example/pub-g01456/laws.FnFileLine", spec := "fnFileLine", unfollowed := true, recurses := true, apart := false, narrowed := true }
def FnFileLineUptoSaid : Prop := fnFileLineUptoRow.holds Try.pinned (OpenSpec.upto fnFileLineSpec)

/-- 'laws.FnPatternConditions', WHERE WHAT IT READS IS OF BULK AT MOST 1048576: true; the input reads as it did. -/
def fnPatternConditionsUptoRow : OpenClaim := { program := "ytnjdckhaecdldaa", sum := "d22983fd76b42318d6ca6a31461b187a5aa696464b7868e5cbd3e720a0971f74", func := "loop.example/pub-g01456/laws.FnPatternConditions", spec := "fnPatternConditions", apart := false, narrowed := true }
def FnPatternConditionsUptoSaid : Prop := fnPatternConditionsUptoRow.holds Try.pinned (OpenSpec.upto fnPatternConditionsSpec)

/-- 'laws.FnPatternLast', WHERE WHAT IT READS IS OF BULK AT MOST 1048576: true; the input reads as it did. -/
def fnPatternLastUptoRow : OpenClaim := { program := "ytnjdckhaecdldaa", sum := "d22983fd76b42318d6ca6a31461b187a5aa696464b7868e5cbd3e720a0971f74", func := "loop.example/pub-g01456/laws.FnPatternLast", spec := "fnPatternLast", apart := false, narrowed := true }
def FnPatternLastUptoSaid : Prop := fnPatternLastUptoRow.holds Try.pinned (OpenSpec.upto fnPatternLastSpec)

/-- 'laws.FnPatternOther', WHERE WHAT IT READS IS OF BULK AT MOST 1048576: true; the input reads as it did. -/
def fnPatternOtherUptoRow : OpenClaim := { program := "ytnjdckhaecdldaa", sum := "d22983fd76b42318d6ca6a31461b187a5aa696464b7868e5cbd3e720a0971f74", func := "loop.example/pub-g01456/laws.FnPatternOther", spec := "fnPatternOther", apart := false, narrowed := true }
def FnPatternOtherUptoSaid : Prop := fnPatternOtherUptoRow.holds Try.pinned (OpenSpec.upto fnPatternOtherSpec)

/-- 'laws.FnPatternParts', WHERE WHAT IT READS IS OF BULK AT MOST 1048576: true; the input reads as it did. -/
def fnPatternPartsUptoRow : OpenClaim := { program := "ytnjdckhaecdldaa", sum := "d22983fd76b42318d6ca6a31461b187a5aa696464b7868e5cbd3e720a0971f74", func := "loop.example/pub-g01456/laws.FnPatternParts", spec := "fnPatternParts", apart := false, narrowed := true }
def FnPatternPartsUptoSaid : Prop := fnPatternPartsUptoRow.holds Try.pinned (OpenSpec.upto fnPatternPartsSpec)

end Rows
end Go.Proofs.Ytnjdckhaecdldaa
