/-
  No cell of these rows narrows 'for every input' (looked for: loops, veiled, ifaces, maps, wideKeys, modest, calm, conditions, laid).
  DERIVED. THE GIVEN ROWS OF THIS SEAT. 8 by the template 'for every input the law returns true; each argument reads behind the call as it read before'; 0 by the template 'total and deterministic' (their statements: YtjcekehmjhpedaaTotals.lean).
  GIVEN WITH THE SEED: the statements are not yours to turn. If you find one false, say at which input.
  Laid BY PROGRAM, IN A SANDBOX (cutbox-rows.mjs): the forced cells as the released guide's own fill.sh prints them over the translation bbf44f6bf3ed7383… (all of the seat's roots in one cut). By AI agents, Wed Nov 11 2026. No macro, syntax, notation, axiom, sorry.
-/
import Derived.Test.YtjcekehmjhpedaaChecked
import GoSem.Claim
import GoSem.ClaimJoined
import GoSem.ClaimMapViews
import Derived.JoinedTies
import Derived.KernelRfl
namespace Go.Proofs.Ytjcekehmjhpedaa
/- THE CELL 'sum', in the pinned program and in every row, IS THE sha256 OF THE DUMP (.gsa) THAT YtjcekehmjhpedaaProg.lean LOADS. Nothing in Lean hashes anything: it is a label: what it is worth is what the hold of that sum in a sandbox is worth. -/
noncomputable def Try.pinned : Pinned := { name := "ytjcekehmjhpedaa", sum := "bbf44f6bf3ed73831d670945bc67c88716b8c77b56525ffddfdd8482b5c4857a", checked := Try.checked }
namespace Rows
def none {H : Type} : Left H := { results := [], args := [] }

/-- 'laws.FnMarkerRead': WHATEVER THE INPUT: true; the input reads as it did. -/
def fnMarkerReadSpec : ChangeSpec := { name := "fnMarkerRead", fn := fun _ => fun
  | [d] => { results := [.lit (.bool true)], args := [d] }
  | _ => none }
def fnMarkerReadRow : OpenClaim := { program := "ytjcekehmjhpedaa", sum := "bbf44f6bf3ed73831d670945bc67c88716b8c77b56525ffddfdd8482b5c4857a", func := "loop.example/pub-g01456/laws.FnMarkerRead", spec := "fnMarkerRead", apart := false }
def FnMarkerReadSaid : Prop := fnMarkerReadRow.holds Try.pinned (OpenSpec.ofChange fnMarkerReadSpec)

/-- ITS FALSE NEIGHBOUR: 'it returns false'. Refute it at one input. -/
def fnMarkerReadWrong : ChangeSpec := { name := "fnMarkerRead", fn := fun _ => fun
  | [d] => { results := [.lit (.bool false)], args := [d] }
  | _ => none }
def FnMarkerReadWrongFalsely : Prop := fnMarkerReadRow.holds Try.pinned (OpenSpec.ofChange fnMarkerReadWrong)

/-- 'laws.FnMarkerAppended': WHATEVER THE INPUT: true; the input reads as it did. -/
def fnMarkerAppendedSpec : ChangeSpec := { name := "fnMarkerAppended", fn := fun _ => fun
  | [d1, d2] => { results := [.lit (.bool true)], args := [d1, d2] }
  | _ => none }
def fnMarkerAppendedRow : OpenClaim := { program := "ytjcekehmjhpedaa", sum := "bbf44f6bf3ed73831d670945bc67c88716b8c77b56525ffddfdd8482b5c4857a", func := "loop.example/pub-g01456/laws.FnMarkerAppended", spec := "fnMarkerAppended", apart := false }
def FnMarkerAppendedSaid : Prop := fnMarkerAppendedRow.holds Try.pinned (OpenSpec.ofChange fnMarkerAppendedSpec)

/-- ITS FALSE NEIGHBOUR: 'it returns false'. Refute it at one input. -/
def fnMarkerAppendedWrong : ChangeSpec := { name := "fnMarkerAppended", fn := fun _ => fun
  | [d1, d2] => { results := [.lit (.bool false)], args := [d1, d2] }
  | _ => none }
def FnMarkerAppendedWrongFalsely : Prop := fnMarkerAppendedRow.holds Try.pinned (OpenSpec.ofChange fnMarkerAppendedWrong)

/-- 'laws.FnMarkerPrinted': WHATEVER THE INPUT: true; the input reads as it did. -/
def fnMarkerPrintedSpec : ChangeSpec := { name := "fnMarkerPrinted", fn := fun _ => fun
  | [d] => { results := [.lit (.bool true)], args := [d] }
  | _ => none }
def fnMarkerPrintedRow : OpenClaim := { program := "ytjcekehmjhpedaa", sum := "bbf44f6bf3ed73831d670945bc67c88716b8c77b56525ffddfdd8482b5c4857a", func := "loop.example/pub-g01456/laws.FnMarkerPrinted", spec := "fnMarkerPrinted", unfollowed := true, recurses := true, apart := false }
def FnMarkerPrintedSaid : Prop := fnMarkerPrintedRow.holds Try.pinned (OpenSpec.ofChange fnMarkerPrintedSpec)

/-- ITS FALSE NEIGHBOUR: 'it returns false'. Refute it at one input. -/
def fnMarkerPrintedWrong : ChangeSpec := { name := "fnMarkerPrinted", fn := fun _ => fun
  | [d] => { results := [.lit (.bool false)], args := [d] }
  | _ => none }
def FnMarkerPrintedWrongFalsely : Prop := fnMarkerPrintedRow.holds Try.pinned (OpenSpec.ofChange fnMarkerPrintedWrong)

/-- 'laws.FnMarkerBinary': WHATEVER THE INPUT: true; the input reads as it did. -/
def fnMarkerBinarySpec : ChangeSpec := { name := "fnMarkerBinary", fn := fun _ => fun
  | [d1, d2, d3] => { results := [.lit (.bool true)], args := [d1, d2, d3] }
  | _ => none }
def fnMarkerBinaryRow : OpenClaim := { program := "ytjcekehmjhpedaa", sum := "bbf44f6bf3ed73831d670945bc67c88716b8c77b56525ffddfdd8482b5c4857a", func := "loop.example/pub-g01456/laws.FnMarkerBinary", spec := "fnMarkerBinary", apart := false }
def FnMarkerBinarySaid : Prop := fnMarkerBinaryRow.holds Try.pinned (OpenSpec.ofChange fnMarkerBinarySpec)

/-- ITS FALSE NEIGHBOUR: 'it returns false'. Refute it at one input. -/
def fnMarkerBinaryWrong : ChangeSpec := { name := "fnMarkerBinary", fn := fun _ => fun
  | [d1, d2, d3] => { results := [.lit (.bool false)], args := [d1, d2, d3] }
  | _ => none }
def FnMarkerBinaryWrongFalsely : Prop := fnMarkerBinaryRow.holds Try.pinned (OpenSpec.ofChange fnMarkerBinaryWrong)

/-- 'laws.FnMarkerBlank': WHATEVER THE INPUT: true; the input reads as it did. -/
def fnMarkerBlankSpec : ChangeSpec := { name := "fnMarkerBlank", fn := fun _ => fun
  | [d1, d2, d3] => { results := [.lit (.bool true)], args := [d1, d2, d3] }
  | _ => none }
def fnMarkerBlankRow : OpenClaim := { program := "ytjcekehmjhpedaa", sum := "bbf44f6bf3ed73831d670945bc67c88716b8c77b56525ffddfdd8482b5c4857a", func := "loop.example/pub-g01456/laws.FnMarkerBlank", spec := "fnMarkerBlank", apart := false }
def FnMarkerBlankSaid : Prop := fnMarkerBlankRow.holds Try.pinned (OpenSpec.ofChange fnMarkerBlankSpec)

/-- ITS FALSE NEIGHBOUR: 'it returns false'. Refute it at one input. -/
def fnMarkerBlankWrong : ChangeSpec := { name := "fnMarkerBlank", fn := fun _ => fun
  | [d1, d2, d3] => { results := [.lit (.bool false)], args := [d1, d2, d3] }
  | _ => none }
def FnMarkerBlankWrongFalsely : Prop := fnMarkerBlankRow.holds Try.pinned (OpenSpec.ofChange fnMarkerBlankWrong)

/-- 'laws.FnMarkerCut': WHATEVER THE INPUT: true; the input reads as it did. -/
def fnMarkerCutSpec : ChangeSpec := { name := "fnMarkerCut", fn := fun _ => fun
  | [d1, d2, d3] => { results := [.lit (.bool true)], args := [d1, d2, d3] }
  | _ => none }
def fnMarkerCutRow : OpenClaim := { program := "ytjcekehmjhpedaa", sum := "bbf44f6bf3ed73831d670945bc67c88716b8c77b56525ffddfdd8482b5c4857a", func := "loop.example/pub-g01456/laws.FnMarkerCut", spec := "fnMarkerCut", apart := false }
def FnMarkerCutSaid : Prop := fnMarkerCutRow.holds Try.pinned (OpenSpec.ofChange fnMarkerCutSpec)

/-- ITS FALSE NEIGHBOUR: 'it returns false'. Refute it at one input. -/
def fnMarkerCutWrong : ChangeSpec := { name := "fnMarkerCut", fn := fun _ => fun
  | [d1, d2, d3] => { results := [.lit (.bool false)], args := [d1, d2, d3] }
  | _ => none }
def FnMarkerCutWrongFalsely : Prop := fnMarkerCutRow.holds Try.pinned (OpenSpec.ofChange fnMarkerCutWrong)

/-- 'laws.FnMarkerFirst': WHATEVER THE INPUT: true; the input reads as it did. -/
def fnMarkerFirstSpec : ChangeSpec := { name := "fnMarkerFirst", fn := fun _ => fun
  | [d1, d2, d3, d4, d5] => { results := [.lit (.bool true)], args := [d1, d2, d3, d4, d5] }
  | _ => none }
def fnMarkerFirstRow : OpenClaim := { program := "ytjcekehmjhpedaa", sum := "bbf44f6bf3ed73831d670945bc67c88716b8c77b56525ffddfdd8482b5c4857a", func := "loop.example/pub-g01456/laws.FnMarkerFirst", spec := "fnMarkerFirst", apart := false }
def FnMarkerFirstSaid : Prop := fnMarkerFirstRow.holds Try.pinned (OpenSpec.ofChange fnMarkerFirstSpec)

/-- ITS FALSE NEIGHBOUR: 'it returns false'. Refute it at one input. -/
def fnMarkerFirstWrong : ChangeSpec := { name := "fnMarkerFirst", fn := fun _ => fun
  | [d1, d2, d3, d4, d5] => { results := [.lit (.bool false)], args := [d1, d2, d3, d4, d5] }
  | _ => none }
def FnMarkerFirstWrongFalsely : Prop := fnMarkerFirstRow.holds Try.pinned (OpenSpec.ofChange fnMarkerFirstWrong)

/-- 'laws.FnMarkerNone': WHATEVER THE INPUT: true; the input reads as it did. -/
def fnMarkerNoneSpec : ChangeSpec := { name := "fnMarkerNone", fn := fun _ => fun
  | [d] => { results := [.lit (.bool true)], args := [d] }
  | _ => none }
def fnMarkerNoneRow : OpenClaim := { program := "ytjcekehmjhpedaa", sum := "bbf44f6bf3ed73831d670945bc67c88716b8c77b56525ffddfdd8482b5c4857a", func := "loop.example/pub-g01456/laws.FnMarkerNone", spec := "fnMarkerNone", apart := false }
def FnMarkerNoneSaid : Prop := fnMarkerNoneRow.holds Try.pinned (OpenSpec.ofChange fnMarkerNoneSpec)

/-- ITS FALSE NEIGHBOUR: 'it returns false'. Refute it at one input. -/
def fnMarkerNoneWrong : ChangeSpec := { name := "fnMarkerNone", fn := fun _ => fun
  | [d] => { results := [.lit (.bool false)], args := [d] }
  | _ => none }
def FnMarkerNoneWrongFalsely : Prop := fnMarkerNoneRow.holds Try.pinned (OpenSpec.ofChange fnMarkerNoneWrong)

/- THE SECOND FORM. 'bulk': how many values and letters a reading holds, each counted each time it is reached (what is shared counts as often as it is met; a slice's spare places count too). A statement '..UptoSaid' is the law's where the arguments, and the package variables that the reading takes, are together of bulk at most 1048576: NARROWER than '..Said'. Prove '..Said' where nothing that the law and all that it calls make is longer than what came in: it says more and counts as full. Else prove '..UptoSaid'. A law counts once. -/
mutual
def uptoBulk {H : Type} : DataW H → Nat
  | .lit (.string bytes) => bytes.length + 1
  | .lit _ => 1
  | .nil => 1
  | .ptr d => uptoBulk d + 1
  | .slice elems spare => uptoBulkAll elems + uptoBulkAll spare + 1
  | .agg parts => uptoBulkAll parts + 1
  | .iface _ d => uptoBulk d + 1
  | .map entries => uptoBulkEntries entries + 1
  | .held _ => 1
def uptoBulkAll {H : Type} : List (DataW H) → Nat
  | [] => 0
  | d :: r => uptoBulk d + uptoBulkAll r
def uptoBulkEntries {H : Type} : List (Lit × DataW H) → Nat
  | [] => 0
  | x :: r => uptoBulkEntry x + uptoBulkEntries r
def uptoBulkEntry {H : Type} : Lit × DataW H → Nat
  | (.string bytes, d) => bytes.length + uptoBulk d + 1
  | (_, d) => uptoBulk d + 1
 end
def uptoSmall : (H : Type) → List (DataW H) → Bool := fun _ ds => decide (uptoBulkAll ds ≤ 1048576)
def OpenSpec.upto (s : _root_.Go.ChangeSpec) : _root_.Go.OpenSpec := { _root_.Go.OpenSpec.ofChange s with cond := some uptoSmall }

/-- 'laws.FnMarkerRead', WHERE WHAT IT READS IS OF BULK AT MOST 1048576: true; the input reads as it did. -/
def fnMarkerReadUptoRow : OpenClaim := { program := "ytjcekehmjhpedaa", sum := "bbf44f6bf3ed73831d670945bc67c88716b8c77b56525ffddfdd8482b5c4857a", func := "loop.example/pub-g01456/laws.FnMarkerRead", spec := "fnMarkerRead", apart := false, narrowed := true }
def FnMarkerReadUptoSaid : Prop := fnMarkerReadUptoRow.holds Try.pinned (OpenSpec.upto fnMarkerReadSpec)

/-- 'laws.FnMarkerAppended', WHERE WHAT IT READS IS OF BULK AT MOST 1048576: true; the input reads as it did. -/
def fnMarkerAppendedUptoRow : OpenClaim := { program := "ytjcekehmjhpedaa", sum := "bbf44f6bf3ed73831d670945bc67c88716b8c77b56525ffddfdd8482b5c4857a", func := "loop.example/pub-g01456/laws.FnMarkerAppended", spec := "fnMarkerAppended", apart := false, narrowed := true }
def FnMarkerAppendedUptoSaid : Prop := fnMarkerAppendedUptoRow.holds Try.pinned (OpenSpec.upto fnMarkerAppendedSpec)

/-- 'laws.FnMarkerPrinted', WHERE WHAT IT READS IS OF BULK AT MOST 1048576: true; the input reads as it did. -/
def fnMarkerPrintedUptoRow : OpenClaim := { program := "ytjcekehmjhpedaa", sum := "bbf44f6bf3ed73831d670945bc67c88716b8c77b56525ffddfdd8482b5c4857a", func := "loop.example/pub-g01456/laws.FnMarkerPrinted", spec := "fnMarkerPrinted", unfollowed := true, recurses := true, apart := false, narrowed := true }
def FnMarkerPrintedUptoSaid : Prop := fnMarkerPrintedUptoRow.holds Try.pinned (OpenSpec.upto fnMarkerPrintedSpec)

/-- 'laws.FnMarkerBinary', WHERE WHAT IT READS IS OF BULK AT MOST 1048576: true; the input reads as it did. -/
def fnMarkerBinaryUptoRow : OpenClaim := { program := "ytjcekehmjhpedaa", sum := "bbf44f6bf3ed73831d670945bc67c88716b8c77b56525ffddfdd8482b5c4857a", func := "loop.example/pub-g01456/laws.FnMarkerBinary", spec := "fnMarkerBinary", apart := false, narrowed := true }
def FnMarkerBinaryUptoSaid : Prop := fnMarkerBinaryUptoRow.holds Try.pinned (OpenSpec.upto fnMarkerBinarySpec)

/-- 'laws.FnMarkerBlank', WHERE WHAT IT READS IS OF BULK AT MOST 1048576: true; the input reads as it did. -/
def fnMarkerBlankUptoRow : OpenClaim := { program := "ytjcekehmjhpedaa", sum := "bbf44f6bf3ed73831d670945bc67c88716b8c77b56525ffddfdd8482b5c4857a", func := "loop.example/pub-g01456/laws.FnMarkerBlank", spec := "fnMarkerBlank", apart := false, narrowed := true }
def FnMarkerBlankUptoSaid : Prop := fnMarkerBlankUptoRow.holds Try.pinned (OpenSpec.upto fnMarkerBlankSpec)

/-- 'laws.FnMarkerCut', WHERE WHAT IT READS IS OF BULK AT MOST 1048576: true; the input reads as it did. -/
def fnMarkerCutUptoRow : OpenClaim := { program := "ytjcekehmjhpedaa", sum := "bbf44f6bf3ed73831d670945bc67c88716b8c77b56525ffddfdd8482b5c4857a", func := "loop.example/pub-g01456/laws.FnMarkerCut", spec := "fnMarkerCut", apart := false, narrowed := true }
def FnMarkerCutUptoSaid : Prop := fnMarkerCutUptoRow.holds Try.pinned (OpenSpec.upto fnMarkerCutSpec)

/-- 'laws.FnMarkerFirst', WHERE WHAT IT READS IS OF BULK AT MOST 1048576: true; the input reads as it did. -/
def fnMarkerFirstUptoRow : OpenClaim := { program := "ytjcekehmjhpedaa", sum := "bbf44f6bf3ed73831d670945bc67c88716b8c77b56525ffddfdd8482b5c4857a", func := "loop.example/pub-g01456/laws.FnMarkerFirst", spec := "fnMarkerFirst", apart := false, narrowed := true }
def FnMarkerFirstUptoSaid : Prop := fnMarkerFirstUptoRow.holds Try.pinned (OpenSpec.upto fnMarkerFirstSpec)

/-- 'laws.FnMarkerNone', WHERE WHAT IT READS IS OF BULK AT MOST 1048576: true; the input reads as it did. -/
def fnMarkerNoneUptoRow : OpenClaim := { program := "ytjcekehmjhpedaa", sum := "bbf44f6bf3ed73831d670945bc67c88716b8c77b56525ffddfdd8482b5c4857a", func := "loop.example/pub-g01456/laws.FnMarkerNone", spec := "fnMarkerNone", apart := false, narrowed := true }
def FnMarkerNoneUptoSaid : Prop := fnMarkerNoneUptoRow.holds Try.pinned (OpenSpec.upto fnMarkerNoneSpec)

end Rows
end Go.Proofs.Ytjcekehmjhpedaa
