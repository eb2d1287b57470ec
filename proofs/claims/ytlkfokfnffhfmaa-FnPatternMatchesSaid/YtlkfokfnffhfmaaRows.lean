/-
  No cell of these rows narrows 'for every input' (looked for: loops, veiled, ifaces, maps, wideKeys, modest, calm, conditions, laid).
  DERIVED. THE GIVEN ROWS OF THIS SEAT. 3 by the template 'for every input the law returns true; each argument reads behind the call as it read before'; 0 by the template 'total and deterministic' (their statements: YtlkfokfnffhfmaaTotals.lean).
  GIVEN WITH THE SEED: the statements are not yours to turn. If you find one false, say at which input.
  Laid BY PROGRAM, IN A SANDBOX (cutbox-rows.mjs): the forced cells as the released guide's own fill.sh prints them over the translation f8305d8818d0c7e2… (all of the seat's roots in one cut). By AI agents, Wed Nov 11 2026. No macro, syntax, notation, axiom, sorry.
-/
import Derived.Test.YtlkfokfnffhfmaaChecked
import GoSem.Claim
import GoSem.ClaimJoined
import GoSem.ClaimMapViews
import Derived.JoinedTies
import Derived.KernelRfl
namespace Go.Proofs.Ytlkfokfnffhfmaa
/- THE CELL 'sum', in the pinned program and in every row, IS THE sha256 OF THE DUMP (.gsa) THAT YtlkfokfnffhfmaaProg.lean LOADS. Nothing in Lean hashes anything: it is a label: what it is worth is what the hold of that sum in a sandbox is worth. -/
noncomputable def Try.pinned : Pinned := { name := "ytlkfokfnffhfmaa", sum := "f8305d8818d0c7e24608d49250b0c41bbc5261bc7e133d21e9824248521e09b9", checked := Try.checked }
namespace Rows
def none {H : Type} : Left H := { results := [], args := [] }

/-- 'laws.FnPatternMatches': WHATEVER THE INPUT: true; the input reads as it did. -/
def fnPatternMatchesSpec : ChangeSpec := { name := "fnPatternMatches", fn := fun _ => fun
  | [d1, d2] => { results := [.lit (.bool true)], args := [d1, d2] }
  | _ => none }
def fnPatternMatchesRow : OpenClaim := { program := "ytlkfokfnffhfmaa", sum := "f8305d8818d0c7e24608d49250b0c41bbc5261bc7e133d21e9824248521e09b9", func := "loop.example/pub-g01456/laws.FnPatternMatches", spec := "fnPatternMatches", apart := false }
def FnPatternMatchesSaid : Prop := fnPatternMatchesRow.holds Try.pinned (OpenSpec.ofChange fnPatternMatchesSpec)

/-- ITS FALSE NEIGHBOUR: 'it returns false'. Refute it at one input. -/
def fnPatternMatchesWrong : ChangeSpec := { name := "fnPatternMatches", fn := fun _ => fun
  | [d1, d2] => { results := [.lit (.bool false)], args := [d1, d2] }
  | _ => none }
def FnPatternMatchesWrongFalsely : Prop := fnPatternMatchesRow.holds Try.pinned (OpenSpec.ofChange fnPatternMatchesWrong)

/-- 'laws.FnFileLine': WHATEVER THE INPUT: true; the input reads as it did. -/
def fnFileLineSpec : ChangeSpec := { name := "fnFileLine", fn := fun _ => fun
  | [d1, d2, d3] => { results := [.lit (.bool true)], args := [d1, d2, d3] }
  | _ => none }
def fnFileLineRow : OpenClaim := { program := "ytlkfokfnffhfmaa", sum := "f8305d8818d0c7e24608d49250b0c41bbc5261bc7e133d21e9824248521e09b9", func := "loop.example/pub-g01456/laws.FnFileLine", spec := "fnFileLine", unfollowed := true, recurses := true, apart := false }
def FnFileLineSaid : Prop := fnFileLineRow.holds Try.pinned (OpenSpec.ofChange fnFileLineSpec)

/-- ITS FALSE NEIGHBOUR: 'it returns false'. Refute it at one input. -/
def fnFileLineWrong : ChangeSpec := { name := "fnFileLine", fn := fun _ => fun
  | [d1, d2, d3] => { results := [.lit (.bool false)], args := [d1, d2, d3] }
  | _ => none }
def FnFileLineWrongFalsely : Prop := fnFileLineRow.holds Try.pinned (OpenSpec.ofChange fnFileLineWrong)

/-- 'laws.FnFlagText': WHATEVER THE INPUT: true; the input reads as it did. -/
def fnFlagTextSpec : ChangeSpec := { name := "fnFlagText", fn := fun _ => fun
  | [d] => { results := [.lit (.bool true)], args := [d] }
  | _ => none }
def fnFlagTextRow : OpenClaim := { program := "ytlkfokfnffhfmaa", sum := "f8305d8818d0c7e24608d49250b0c41bbc5261bc7e133d21e9824248521e09b9", func := "loop.example/pub-g01456/laws.FnFlagText", spec := "fnFlagText", inPlace := ["internal/abi.NoEscape", "internal/bytealg.MakeNoZero"], apart := false }
def FnFlagTextSaid : Prop := fnFlagTextRow.holds Try.pinned (OpenSpec.ofChange fnFlagTextSpec)

/-- ITS FALSE NEIGHBOUR: 'it returns false'. Refute it at one input. -/
def fnFlagTextWrong : ChangeSpec := { name := "fnFlagText", fn := fun _ => fun
  | [d] => { results := [.lit (.bool false)], args := [d] }
  | _ => none }
def FnFlagTextWrongFalsely : Prop := fnFlagTextRow.holds Try.pinned (OpenSpec.ofChange fnFlagTextWrong)

/- THE SECOND FORM. 'bulk': how many values and letters a reading holds, each counted each time it is reached (what is shared counts as often as it is met; a slice's spare places count too). A statement '..UptoSaid' is the law's where the arguments, and the package variables that the reading takes, are together of bulk at most 1048576: NARROWER than '..Said'. Prove '..Said' where nothing that the law and all that it calls make is longer than what came in: it says more and counts as full. Else prove '..UptoSaid'. A law counts once. -/
mutual
def uptoBulk {H : Type} : DataW H → Nat
  | .lit (.string bytes) => bytes.length + 1
  | .lit _ => 1
  | .nil => 1
  | .ptr d => uptoBulk d + 1
  | .slice elems spare => uptoBulkAll elems + uptoBulkAll spare + 1
  | .agg parts => uptoBulkAll parts + 1
  | .iface _ d => uptoBulk d + 1
  | .map entries => uptoBulkEntries entries + 1
  | .held _ => 1
def uptoBulkAll {H : Type} : List (DataW H) → Nat
  | [] => 0
  | d :: r => uptoBulk d + uptoBulkAll r
def uptoBulkEntries {H : Type} : List (Lit × DataW H) → Nat
  | [] => 0
  | x :: r => uptoBulkEntry x + uptoBulkEntries r
def uptoBulkEntry {H : Type} : Lit × DataW H → Nat
  | (.string bytes, d) => bytes.length + uptoBulk d + 1
  | (_, d) => uptoBulk d + 1
 end
def uptoSmall : (H : Type) → List (DataW H) → Bool := fun _ ds => decide (uptoBulkAll ds ≤ 1048576)
def OpenSpec.upto (s : _root_.Go.ChangeSpec) : _root_.Go.OpenSpec := { _root_.Go.OpenSpec.ofChange s with cond := some uptoSmall }

/-- 'laws.FnPatternMatches', WHERE WHAT IT READS IS OF BULK AT MOST 1048576: true; the input reads as it did. -/
def fnPatternMatchesUptoRow : OpenClaim := { program := "ytlkfokfnffhfmaa", sum := "f8305d8818d0c7e24608d49250b0c41bbc5261bc7e133d21e9824248521e09b9", func := "loop.example/pub-g01456/laws.FnPatternMatches", spec := "fnPatternMatches", apart := false, narrowed := true }
def FnPatternMatchesUptoSaid : Prop := fnPatternMatchesUptoRow.holds Try.pinned (OpenSpec.upto fnPatternMatchesSpec)

/-- 'laws.FnFileLine', WHERE WHAT IT READS IS OF BULK AT MOST 1048576: true; the input reads as it did. -/
def fnFileLineUptoRow : OpenClaim := { program := "ytlkfokfnffhfmaa", sum := "f8305d8818d0c7e24608d49250b0c41bbc5261bc7e133d21e9824248521e09b9", func := "loop.example/pub-g01456/laws.FnFileLine", spec := "fnFileLine", unfollowed := true, recurses := true, apart := false, narrowed := true }
def FnFileLineUptoSaid : Prop := fnFileLineUptoRow.holds Try.pinned (OpenSpec.upto fnFileLineSpec)

/-- 'laws.FnFlagText', WHERE WHAT IT READS IS OF BULK AT MOST 1048576: true; the input reads as it did. -/
def fnFlagTextUptoRow : OpenClaim := { program := "ytlkfokfnffhfmaa", sum := "f8305d8818d0c7e24608d49250b0c41bbc5261bc7e133d21e9824248521e09b9", func := "loop.example/pub-g01456/laws.FnFlagText", spec := "fnFlagText", inPlace := ["internal/abi.NoEscape", "internal/bytealg.MakeNoZero"], apart := false, narrowed := true }
def FnFlagTextUptoSaid : Prop := fnFlagTextUptoRow.holds Try.pinned (OpenSpec.upto fnFlagTextSpec)

end Rows
end Go.Proofs.Ytlkfokfnffhfmaa
