/-
  No cell of these rows narrows 'for every input' (looked for: loops, veiled, ifaces, maps, wideKeys, modest, calm, conditions, laid).
  DERIVED. THE GIVEN ROWS OF THIS SEAT. 12 by the template 'for every input the law returns true; each argument reads behind the call as it read before'; 0 by the template 'total and deterministic' (their statements: YtlmmhhbdibcijaaTotals.lean).
  GIVEN WITH THE SEED: the statements are not yours to turn. If you find one false, say at which input.
  Laid BY PROGRAM, IN A SANDBOX (cutbox-rows.mjs): the forced cells as the released guide's own fill.sh prints them over the translation 980efca7465d7036… (all of the seat's roots in one cut). By AI agents, Wed Nov 11 2026. No macro, syntax, notation, axiom, sorry.
-/
import Derived.Test.YtlmmhhbdibcijaaChecked
import GoSem.Claim
import GoSem.ClaimJoined
import GoSem.ClaimMapViews
import Derived.JoinedTies
import Derived.KernelRfl
namespace Go.Proofs.Ytlmmhhbdibcijaa
/- THE CELL 'sum', in the pinned program and in every row, IS THE sha256 OF THE DUMP (.gsa) THAT YtlmmhhbdibcijaaProg.lean LOADS. Nothing in Lean hashes anything: it is a label: what it is worth is what the hold of that sum in a sandbox is worth. -/
noncomputable def Try.pinned : Pinned := { name := "ytlmmhhbdibcijaa", sum := "980efca7465d70362e685dc98d8f34c97a9c19f68585149dda6374f51062f488", checked := Try.checked }
namespace Rows
def none {H : Type} : Left H := { results := [], args := [] }

/-- 'laws.FnSplitMissing': WHATEVER THE INPUT: true; the input reads as it did. -/
def fnSplitMissingSpec : ChangeSpec := { name := "fnSplitMissing", fn := fun _ => fun
  | [d] => { results := [.lit (.bool true)], args := [d] }
  | _ => none }
def fnSplitMissingRow : OpenClaim := { program := "ytlmmhhbdibcijaa", sum := "980efca7465d70362e685dc98d8f34c97a9c19f68585149dda6374f51062f488", func := "loop.example/pub-g01456/laws.FnSplitMissing", spec := "fnSplitMissing", apart := false }
def FnSplitMissingSaid : Prop := fnSplitMissingRow.holds Try.pinned (OpenSpec.ofChange fnSplitMissingSpec)

/-- ITS FALSE NEIGHBOUR: 'it returns false'. Refute it at one input. -/
def fnSplitMissingWrong : ChangeSpec := { name := "fnSplitMissing", fn := fun _ => fun
  | [d] => { results := [.lit (.bool false)], args := [d] }
  | _ => none }
def FnSplitMissingWrongFalsely : Prop := fnSplitMissingRow.holds Try.pinned (OpenSpec.ofChange fnSplitMissingWrong)

/-- 'laws.FnSplitOne': WHATEVER THE INPUT: true; the input reads as it did. -/
def fnSplitOneSpec : ChangeSpec := { name := "fnSplitOne", fn := fun _ => fun
  | [d1, d2] => { results := [.lit (.bool true)], args := [d1, d2] }
  | _ => none }
def fnSplitOneRow : OpenClaim := { program := "ytlmmhhbdibcijaa", sum := "980efca7465d70362e685dc98d8f34c97a9c19f68585149dda6374f51062f488", func := "loop.example/pub-g01456/laws.FnSplitOne", spec := "fnSplitOne", apart := false }
def FnSplitOneSaid : Prop := fnSplitOneRow.holds Try.pinned (OpenSpec.ofChange fnSplitOneSpec)

/-- ITS FALSE NEIGHBOUR: 'it returns false'. Refute it at one input. -/
def fnSplitOneWrong : ChangeSpec := { name := "fnSplitOne", fn := fun _ => fun
  | [d1, d2] => { results := [.lit (.bool false)], args := [d1, d2] }
  | _ => none }
def FnSplitOneWrongFalsely : Prop := fnSplitOneRow.holds Try.pinned (OpenSpec.ofChange fnSplitOneWrong)

/-- 'laws.FnSplitPadded': WHATEVER THE INPUT: true; the input reads as it did. -/
def fnSplitPaddedSpec : ChangeSpec := { name := "fnSplitPadded", fn := fun _ => fun
  | [d1, d2, d3] => { results := [.lit (.bool true)], args := [d1, d2, d3] }
  | _ => none }
def fnSplitPaddedRow : OpenClaim := { program := "ytlmmhhbdibcijaa", sum := "980efca7465d70362e685dc98d8f34c97a9c19f68585149dda6374f51062f488", func := "loop.example/pub-g01456/laws.FnSplitPadded", spec := "fnSplitPadded", apart := false }
def FnSplitPaddedSaid : Prop := fnSplitPaddedRow.holds Try.pinned (OpenSpec.ofChange fnSplitPaddedSpec)

/-- ITS FALSE NEIGHBOUR: 'it returns false'. Refute it at one input. -/
def fnSplitPaddedWrong : ChangeSpec := { name := "fnSplitPadded", fn := fun _ => fun
  | [d1, d2, d3] => { results := [.lit (.bool false)], args := [d1, d2, d3] }
  | _ => none }
def FnSplitPaddedWrongFalsely : Prop := fnSplitPaddedRow.holds Try.pinned (OpenSpec.ofChange fnSplitPaddedWrong)

/-- 'laws.FnSplitReference': WHATEVER THE INPUT: true; the input reads as it did. -/
def fnSplitReferenceSpec : ChangeSpec := { name := "fnSplitReference", fn := fun _ => fun
  | [d] => { results := [.lit (.bool true)], args := [d] }
  | _ => none }
def fnSplitReferenceRow : OpenClaim := { program := "ytlmmhhbdibcijaa", sum := "980efca7465d70362e685dc98d8f34c97a9c19f68585149dda6374f51062f488", func := "loop.example/pub-g01456/laws.FnSplitReference", spec := "fnSplitReference", apart := false }
def FnSplitReferenceSaid : Prop := fnSplitReferenceRow.holds Try.pinned (OpenSpec.ofChange fnSplitReferenceSpec)

/-- ITS FALSE NEIGHBOUR: 'it returns false'. Refute it at one input. -/
def fnSplitReferenceWrong : ChangeSpec := { name := "fnSplitReference", fn := fun _ => fun
  | [d] => { results := [.lit (.bool false)], args := [d] }
  | _ => none }
def FnSplitReferenceWrongFalsely : Prop := fnSplitReferenceRow.holds Try.pinned (OpenSpec.ofChange fnSplitReferenceWrong)

/-- 'laws.FnJoinPlain': WHATEVER THE INPUT: true; the input reads as it did. -/
def fnJoinPlainSpec : ChangeSpec := { name := "fnJoinPlain", fn := fun _ => fun
  | [d] => { results := [.lit (.bool true)], args := [d] }
  | _ => none }
def fnJoinPlainRow : OpenClaim := { program := "ytlmmhhbdibcijaa", sum := "980efca7465d70362e685dc98d8f34c97a9c19f68585149dda6374f51062f488", func := "loop.example/pub-g01456/laws.FnJoinPlain", spec := "fnJoinPlain", apart := false }
def FnJoinPlainSaid : Prop := fnJoinPlainRow.holds Try.pinned (OpenSpec.ofChange fnJoinPlainSpec)

/-- ITS FALSE NEIGHBOUR: 'it returns false'. Refute it at one input. -/
def fnJoinPlainWrong : ChangeSpec := { name := "fnJoinPlain", fn := fun _ => fun
  | [d] => { results := [.lit (.bool false)], args := [d] }
  | _ => none }
def FnJoinPlainWrongFalsely : Prop := fnJoinPlainRow.holds Try.pinned (OpenSpec.ofChange fnJoinPlainWrong)

/-- 'laws.FnJoinQuoted': WHATEVER THE INPUT: true; the input reads as it did. -/
def fnJoinQuotedSpec : ChangeSpec := { name := "fnJoinQuoted", fn := fun _ => fun
  | [d1, d2] => { results := [.lit (.bool true)], args := [d1, d2] }
  | _ => none }
def fnJoinQuotedRow : OpenClaim := { program := "ytlmmhhbdibcijaa", sum := "980efca7465d70362e685dc98d8f34c97a9c19f68585149dda6374f51062f488", func := "loop.example/pub-g01456/laws.FnJoinQuoted", spec := "fnJoinQuoted", apart := false }
def FnJoinQuotedSaid : Prop := fnJoinQuotedRow.holds Try.pinned (OpenSpec.ofChange fnJoinQuotedSpec)

/-- ITS FALSE NEIGHBOUR: 'it returns false'. Refute it at one input. -/
def fnJoinQuotedWrong : ChangeSpec := { name := "fnJoinQuoted", fn := fun _ => fun
  | [d1, d2] => { results := [.lit (.bool false)], args := [d1, d2] }
  | _ => none }
def FnJoinQuotedWrongFalsely : Prop := fnJoinQuotedRow.holds Try.pinned (OpenSpec.ofChange fnJoinQuotedWrong)

/-- 'laws.FnJoinRefuses': WHATEVER THE INPUT: true; the input reads as it did. -/
def fnJoinRefusesSpec : ChangeSpec := { name := "fnJoinRefuses", fn := fun _ => fun
  | [d] => { results := [.lit (.bool true)], args := [d] }
  | _ => none }
def fnJoinRefusesRow : OpenClaim := { program := "ytlmmhhbdibcijaa", sum := "980efca7465d70362e685dc98d8f34c97a9c19f68585149dda6374f51062f488", func := "loop.example/pub-g01456/laws.FnJoinRefuses", spec := "fnJoinRefuses", apart := false }
def FnJoinRefusesSaid : Prop := fnJoinRefusesRow.holds Try.pinned (OpenSpec.ofChange fnJoinRefusesSpec)

/-- ITS FALSE NEIGHBOUR: 'it returns false'. Refute it at one input. -/
def fnJoinRefusesWrong : ChangeSpec := { name := "fnJoinRefuses", fn := fun _ => fun
  | [d] => { results := [.lit (.bool false)], args := [d] }
  | _ => none }
def FnJoinRefusesWrongFalsely : Prop := fnJoinRefusesRow.holds Try.pinned (OpenSpec.ofChange fnJoinRefusesWrong)

/-- 'laws.FnFlagSet': WHATEVER THE INPUT: true; the input reads as it did. -/
def fnFlagSetSpec : ChangeSpec := { name := "fnFlagSet", fn := fun _ => fun
  | [d] => { results := [.lit (.bool true)], args := [d] }
  | _ => none }
def fnFlagSetRow : OpenClaim := { program := "ytlmmhhbdibcijaa", sum := "980efca7465d70362e685dc98d8f34c97a9c19f68585149dda6374f51062f488", func := "loop.example/pub-g01456/laws.FnFlagSet", spec := "fnFlagSet", apart := false }
def FnFlagSetSaid : Prop := fnFlagSetRow.holds Try.pinned (OpenSpec.ofChange fnFlagSetSpec)

/-- ITS FALSE NEIGHBOUR: 'it returns false'. Refute it at one input. -/
def fnFlagSetWrong : ChangeSpec := { name := "fnFlagSet", fn := fun _ => fun
  | [d] => { results := [.lit (.bool false)], args := [d] }
  | _ => none }
def FnFlagSetWrongFalsely : Prop := fnFlagSetRow.holds Try.pinned (OpenSpec.ofChange fnFlagSetWrong)

/-- 'laws.FnJoinParts': WHATEVER THE INPUT: true; the input reads as it did. -/
def fnJoinPartsSpec : ChangeSpec := { name := "fnJoinParts", fn := fun _ => fun
  | [d1, d2] => { results := [.lit (.bool true)], args := [d1, d2] }
  | _ => none }
def fnJoinPartsRow : OpenClaim := { program := "ytlmmhhbdibcijaa", sum := "980efca7465d70362e685dc98d8f34c97a9c19f68585149dda6374f51062f488", func := "loop.example/pub-g01456/laws.FnJoinParts", spec := "fnJoinParts", apart := false }
def FnJoinPartsSaid : Prop := fnJoinPartsRow.holds Try.pinned (OpenSpec.ofChange fnJoinPartsSpec)

/-- ITS FALSE NEIGHBOUR: 'it returns false'. Refute it at one input. -/
def fnJoinPartsWrong : ChangeSpec := { name := "fnJoinParts", fn := fun _ => fun
  | [d1, d2] => { results := [.lit (.bool false)], args := [d1, d2] }
  | _ => none }
def FnJoinPartsWrongFalsely : Prop := fnJoinPartsRow.holds Try.pinned (OpenSpec.ofChange fnJoinPartsWrong)

/-- 'laws.FnJoinSplit': WHATEVER THE INPUT: true; the input reads as it did. -/
def fnJoinSplitSpec : ChangeSpec := { name := "fnJoinSplit", fn := fun _ => fun
  | [d] => { results := [.lit (.bool true)], args := [d] }
  | _ => none }
def fnJoinSplitRow : OpenClaim := { program := "ytlmmhhbdibcijaa", sum := "980efca7465d70362e685dc98d8f34c97a9c19f68585149dda6374f51062f488", func := "loop.example/pub-g01456/laws.FnJoinSplit", spec := "fnJoinSplit", apart := false }
def FnJoinSplitSaid : Prop := fnJoinSplitRow.holds Try.pinned (OpenSpec.ofChange fnJoinSplitSpec)

/-- ITS FALSE NEIGHBOUR: 'it returns false'. Refute it at one input. -/
def fnJoinSplitWrong : ChangeSpec := { name := "fnJoinSplit", fn := fun _ => fun
  | [d] => { results := [.lit (.bool false)], args := [d] }
  | _ => none }
def FnJoinSplitWrongFalsely : Prop := fnJoinSplitRow.holds Try.pinned (OpenSpec.ofChange fnJoinSplitWrong)

/-- 'laws.FnSplitAgain': WHATEVER THE INPUT: true; the input reads as it did. -/
def fnSplitAgainSpec : ChangeSpec := { name := "fnSplitAgain", fn := fun _ => fun
  | [d] => { results := [.lit (.bool true)], args := [d] }
  | _ => none }
def fnSplitAgainRow : OpenClaim := { program := "ytlmmhhbdibcijaa", sum := "980efca7465d70362e685dc98d8f34c97a9c19f68585149dda6374f51062f488", func := "loop.example/pub-g01456/laws.FnSplitAgain", spec := "fnSplitAgain", apart := false }
def FnSplitAgainSaid : Prop := fnSplitAgainRow.holds Try.pinned (OpenSpec.ofChange fnSplitAgainSpec)

/-- ITS FALSE NEIGHBOUR: 'it returns false'. Refute it at one input. -/
def fnSplitAgainWrong : ChangeSpec := { name := "fnSplitAgain", fn := fun _ => fun
  | [d] => { results := [.lit (.bool false)], args := [d] }
  | _ => none }
def FnSplitAgainWrongFalsely : Prop := fnSplitAgainRow.holds Try.pinned (OpenSpec.ofChange fnSplitAgainWrong)

/-- 'laws.FnSplitSpaces': WHATEVER THE INPUT: true; the input reads as it did. -/
def fnSplitSpacesSpec : ChangeSpec := { name := "fnSplitSpaces", fn := fun _ => fun
  | [d1, d2] => { results := [.lit (.bool true)], args := [d1, d2] }
  | _ => none }
def fnSplitSpacesRow : OpenClaim := { program := "ytlmmhhbdibcijaa", sum := "980efca7465d70362e685dc98d8f34c97a9c19f68585149dda6374f51062f488", func := "loop.example/pub-g01456/laws.FnSplitSpaces", spec := "fnSplitSpaces", apart := false }
def FnSplitSpacesSaid : Prop := fnSplitSpacesRow.holds Try.pinned (OpenSpec.ofChange fnSplitSpacesSpec)

/-- ITS FALSE NEIGHBOUR: 'it returns false'. Refute it at one input. -/
def fnSplitSpacesWrong : ChangeSpec := { name := "fnSplitSpaces", fn := fun _ => fun
  | [d1, d2] => { results := [.lit (.bool false)], args := [d1, d2] }
  | _ => none }
def FnSplitSpacesWrongFalsely : Prop := fnSplitSpacesRow.holds Try.pinned (OpenSpec.ofChange fnSplitSpacesWrong)

/- THE SECOND FORM. 'bulk': how many values and letters a reading holds, each counted each time it is reached (what is shared counts as often as it is met; a slice's spare places count too). A statement '..UptoSaid' is the law's where the arguments, and the package variables that the reading takes, are together of bulk at most 1048576: NARROWER than '..Said'. Prove '..Said' where nothing that the law and all that it calls make is longer than what came in: it says more and counts as full. Else prove '..UptoSaid'. A law counts once. -/
mutual
def uptoBulk {H : Type} : DataW H → Nat
  | .lit (.string bytes) => bytes.length + 1
  | .lit _ => 1
  | .nil => 1
  | .ptr d => uptoBulk d + 1
  | .slice elems spare => uptoBulkAll elems + uptoBulkAll spare + 1
  | .agg parts => uptoBulkAll parts + 1
  | .iface _ d => uptoBulk d + 1
  | .map entries => uptoBulkEntries entries + 1
  | .held _ => 1
def uptoBulkAll {H : Type} : List (DataW H) → Nat
  | [] => 0
  | d :: r => uptoBulk d + uptoBulkAll r
def uptoBulkEntries {H : Type} : List (Lit × DataW H) → Nat
  | [] => 0
  | x :: r => uptoBulkEntry x + uptoBulkEntries r
def uptoBulkEntry {H : Type} : Lit × DataW H → Nat
  | (.string bytes, d) => bytes.length + uptoBulk d + 1
  | (_, d) => uptoBulk d + 1
 end
def uptoSmall : (H : Type) → List (DataW H) → Bool := fun _ ds => decide (uptoBulkAll ds ≤ 1048576)
def OpenSpec.upto (s : _root_.Go.ChangeSpec) : _root_.Go.OpenSpec := { _root_.Go.OpenSpec.ofChange s with cond := some uptoSmall }

/-- 'laws.FnSplitMissing', WHERE WHAT IT READS IS OF BULK AT MOST 1048576: true; the input reads as it did. -/
def fnSplitMissingUptoRow : OpenClaim := { program := "ytlmmhhbdibcijaa", sum := "980efca7465d70362e685dc98d8f34c97a9c19f68585149dda6374f51062f488", func := "loop.example/pub-g01456/laws.FnSplitMissing", spec := "fnSplitMissing", apart := false, narrowed := true }
def FnSplitMissingUptoSaid : Prop := fnSplitMissingUptoRow.holds Try.pinned (OpenSpec.upto fnSplitMissingSpec)

/-- 'laws.FnSplitOne', WHERE WHAT IT READS IS OF BULK AT MOST 1048576: true; the input reads as it did. -/
def fnSplitOneUptoRow : OpenClaim := { program := "ytlmmhhbdibcijaa", sum := "980efca7465d70362e685dc98d8f34c97a9c19f68585149dda6374f51062f488", func := "loop.example/pub-g01456/laws.FnSplitOne", spec := "fnSplitOne", apart := false, narrowed := true }
def FnSplitOneUptoSaid : Prop := fnSplitOneUptoRow.holds Try.pinned (OpenSpec.upto fnSplitOneSpec)

/-- 'laws.FnSplitPadded', WHERE WHAT IT READS IS OF BULK AT MOST 1048576: true; the input reads as it did. -/
def fnSplitPaddedUptoRow : OpenClaim := { program := "ytlmmhhbdibcijaa", sum := "980efca7465d70362e685dc98d8f34c97a9c19f68585149dda6374f51062f488", func := "loop.example/pub-g01456/laws.FnSplitPadded", spec := "fnSplitPadded", apart := false, narrowed := true }
def FnSplitPaddedUptoSaid : Prop := fnSplitPaddedUptoRow.holds Try.pinned (OpenSpec.upto fnSplitPaddedSpec)

/-- 'laws.FnSplitReference', WHERE WHAT IT READS IS OF BULK AT MOST 1048576: true; the input reads as it did. -/
def fnSplitReferenceUptoRow : OpenClaim := { program := "ytlmmhhbdibcijaa", sum := "980efca7465d70362e685dc98d8f34c97a9c19f68585149dda6374f51062f488", func := "loop.example/pub-g01456/laws.FnSplitReference", spec := "fnSplitReference", apart := false, narrowed := true }
def FnSplitReferenceUptoSaid : Prop := fnSplitReferenceUptoRow.holds Try.pinned (OpenSpec.upto fnSplitReferenceSpec)

/-- 'laws.FnJoinPlain', WHERE WHAT IT READS IS OF BULK AT MOST 1048576: true; the input reads as it did. -/
def fnJoinPlainUptoRow : OpenClaim := { program := "ytlmmhhbdibcijaa", sum := "980efca7465d70362e685dc98d8f34c97a9c19f68585149dda6374f51062f488", func := "loop.example/pub-g01456/laws.FnJoinPlain", spec := "fnJoinPlain", apart := false, narrowed := true }
def FnJoinPlainUptoSaid : Prop := fnJoinPlainUptoRow.holds Try.pinned (OpenSpec.upto fnJoinPlainSpec)

/-- 'laws.FnJoinQuoted', WHERE WHAT IT READS IS OF BULK AT MOST 1048576: true; the input reads as it did. -/
def fnJoinQuotedUptoRow : OpenClaim := { program := "ytlmmhhbdibcijaa", sum := "980efca7465d70362e685dc98d8f34c97a9c19f68585149dda6374f51062f488", func := "loop.example/pub-g01456/laws.FnJoinQuoted", spec := "fnJoinQuoted", apart := false, narrowed := true }
def FnJoinQuotedUptoSaid : Prop := fnJoinQuotedUptoRow.holds Try.pinned (OpenSpec.upto fnJoinQuotedSpec)

/-- 'laws.FnJoinRefuses', WHERE WHAT IT READS IS OF BULK AT MOST 1048576: true; the input reads as it did. -/
def fnJoinRefusesUptoRow : OpenClaim := { program := "ytlmmhhbdibcijaa", sum := "980efca7465d70362e685dc98d8f34c97a9c19f68585149dda6374f51062f488", func := "loop.example/pub-g01456/laws.FnJoinRefuses", spec := "fnJoinRefuses", apart := false, narrowed := true }
def FnJoinRefusesUptoSaid : Prop := fnJoinRefusesUptoRow.holds Try.pinned (OpenSpec.upto fnJoinRefusesSpec)

/-- 'laws.FnFlagSet', WHERE WHAT IT READS IS OF BULK AT MOST 1048576: true; the input reads as it did. -/
def fnFlagSetUptoRow : OpenClaim := { program := "ytlmmhhbdibcijaa", sum := "980efca7465d70362e685dc98d8f34c97a9c19f68585149dda6374f51062f488", func := "loop.example/pub-g01456/laws.FnFlagSet", spec := "fnFlagSet", apart := false, narrowed := true }
def FnFlagSetUptoSaid : Prop := fnFlagSetUptoRow.holds Try.pinned (OpenSpec.upto fnFlagSetSpec)

/-- 'laws.FnJoinParts', WHERE WHAT IT READS IS OF BULK AT MOST 1048576: true; the input reads as it did. -/
def fnJoinPartsUptoRow : OpenClaim := { program := "ytlmmhhbdibcijaa", sum := "980efca7465d70362e685dc98d8f34c97a9c19f68585149dda6374f51062f488", func := "loop.example/pub-g01456/laws.FnJoinParts", spec := "fnJoinParts", apart := false, narrowed := true }
def FnJoinPartsUptoSaid : Prop := fnJoinPartsUptoRow.holds Try.pinned (OpenSpec.upto fnJoinPartsSpec)

/-- 'laws.FnJoinSplit', WHERE WHAT IT READS IS OF BULK AT MOST 1048576: true; the input reads as it did. -/
def fnJoinSplitUptoRow : OpenClaim := { program := "ytlmmhhbdibcijaa", sum := "980efca7465d70362e685dc98d8f34c97a9c19f68585149dda6374f51062f488", func := "loop.example/pub-g01456/laws.FnJoinSplit", spec := "fnJoinSplit", apart := false, narrowed := true }
def FnJoinSplitUptoSaid : Prop := fnJoinSplitUptoRow.holds Try.pinned (OpenSpec.upto fnJoinSplitSpec)

/-- 'laws.FnSplitAgain', WHERE WHAT IT READS IS OF BULK AT MOST 1048576: true; the input reads as it did. -/
def fnSplitAgainUptoRow : OpenClaim := { program := "ytlmmhhbdibcijaa", sum := "980efca7465d70362e685dc98d8f34c97a9c19f68585149dda6374f51062f488", func := "loop.example/pub-g01456/laws.FnSplitAgain", spec := "fnSplitAgain", apart := false, narrowed := true }
def FnSplitAgainUptoSaid : Prop := fnSplitAgainUptoRow.holds Try.pinned (OpenSpec.upto fnSplitAgainSpec)

/-- 'laws.FnSplitSpaces', WHERE WHAT IT READS IS OF BULK AT MOST 1048576: true; the input reads as it did. -/
def fnSplitSpacesUptoRow : OpenClaim := { program := "ytlmmhhbdibcijaa", sum := "980efca7465d70362e685dc98d8f34c97a9c19f68585149dda6374f51062f488", func := "loop.example/pub-g01456/laws.FnSplitSpaces", spec := "fnSplitSpaces", apart := false, narrowed := true }
def FnSplitSpacesUptoSaid : Prop := fnSplitSpacesUptoRow.holds Try.pinned (OpenSpec.upto fnSplitSpacesSpec)

end Rows
end Go.Proofs.Ytlmmhhbdibcijaa
