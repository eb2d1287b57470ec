/-
  No cell of these rows narrows 'for every input' (looked for: loops, veiled, ifaces, maps, wideKeys, modest, calm, conditions, laid).
  DERIVED. THE GIVEN ROWS OF THIS SEAT. 12 by the template 'for every input the law returns true; each argument reads behind the call as it read before'; 0 by the template 'total and deterministic' (their statements: YtelmpgonfcgjnaaTotals.lean).
  GIVEN WITH THE SEED: the statements are not yours to turn. If you find one false, say at which input.
  Laid BY PROGRAM, IN A SANDBOX (cutbox-rows.mjs): the forced cells as the released guide's own fill.sh prints them over the translation de89bbf31757e794… (all of the seat's roots in one cut). By AI agents, Wed Nov 11 2026. No macro, syntax, notation, axiom, sorry.
-/
import Derived.Test.YtelmpgonfcgjnaaChecked
import GoSem.Claim
import GoSem.ClaimJoined
import GoSem.ClaimMapViews
import Derived.JoinedTies
import Derived.KernelRfl
namespace Go.Proofs.Ytelmpgonfcgjnaa
/- THE CELL 'sum', in the pinned program and in every row, IS THE sha256 OF THE DUMP (.gsa) THAT YtelmpgonfcgjnaaProg.lean LOADS. Nothing in Lean hashes anything: it is a label: what it is worth is what the hold of that sum in a sandbox is worth. -/
noncomputable def Try.pinned : Pinned := { name := "ytelmpgonfcgjnaa", sum := "de89bbf31757e794c7261a24c2ae1843a4507706b240a96f616db08f91217f11", checked := Try.checked }
namespace Rows
def none {H : Type} : Left H := { results := [], args := [] }

/-- 'laws.FnPatternConditions': WHATEVER THE INPUT: true; the input reads as it did. -/
def fnPatternConditionsSpec : ChangeSpec := { name := "fnPatternConditions", fn := fun _ => fun
  | [d] => { results := [.lit (.bool true)], args := [d] }
  | _ => none }
def fnPatternConditionsRow : OpenClaim := { program := "ytelmpgonfcgjnaa", sum := "de89bbf31757e794c7261a24c2ae1843a4507706b240a96f616db08f91217f11", func := "loop.example/pub-g01456/laws.FnPatternConditions", spec := "fnPatternConditions", apart := false }
def FnPatternConditionsSaid : Prop := fnPatternConditionsRow.holds Try.pinned (OpenSpec.ofChange fnPatternConditionsSpec)

/-- ITS FALSE NEIGHBOUR: 'it returns false'. Refute it at one input. -/
def fnPatternConditionsWrong : ChangeSpec := { name := "fnPatternConditions", fn := fun _ => fun
  | [d] => { results := [.lit (.bool false)], args := [d] }
  | _ => none }
def FnPatternConditionsWrongFalsely : Prop := fnPatternConditionsRow.holds Try.pinned (OpenSpec.ofChange fnPatternConditionsWrong)

/-- 'laws.FnPatternAll': WHATEVER THE INPUT: true; the input reads as it did. -/
def fnPatternAllSpec : ChangeSpec := { name := "fnPatternAll", fn := fun _ => fun
  | [d] => { results := [.lit (.bool true)], args := [d] }
  | _ => none }
def fnPatternAllRow : OpenClaim := { program := "ytelmpgonfcgjnaa", sum := "de89bbf31757e794c7261a24c2ae1843a4507706b240a96f616db08f91217f11", func := "loop.example/pub-g01456/laws.FnPatternAll", spec := "fnPatternAll", apart := false }
def FnPatternAllSaid : Prop := fnPatternAllRow.holds Try.pinned (OpenSpec.ofChange fnPatternAllSpec)

/-- ITS FALSE NEIGHBOUR: 'it returns false'. Refute it at one input. -/
def fnPatternAllWrong : ChangeSpec := { name := "fnPatternAll", fn := fun _ => fun
  | [d] => { results := [.lit (.bool false)], args := [d] }
  | _ => none }
def FnPatternAllWrongFalsely : Prop := fnPatternAllRow.holds Try.pinned (OpenSpec.ofChange fnPatternAllWrong)

/-- 'laws.FnPatternEmpty': WHATEVER THE INPUT: true; the input reads as it did. -/
def fnPatternEmptySpec : ChangeSpec := { name := "fnPatternEmpty", fn := fun _ => fun
  | [d1, d2] => { results := [.lit (.bool true)], args := [d1, d2] }
  | _ => none }
def fnPatternEmptyRow : OpenClaim := { program := "ytelmpgonfcgjnaa", sum := "de89bbf31757e794c7261a24c2ae1843a4507706b240a96f616db08f91217f11", func := "loop.example/pub-g01456/laws.FnPatternEmpty", spec := "fnPatternEmpty", apart := false }
def FnPatternEmptySaid : Prop := fnPatternEmptyRow.holds Try.pinned (OpenSpec.ofChange fnPatternEmptySpec)

/-- ITS FALSE NEIGHBOUR: 'it returns false'. Refute it at one input. -/
def fnPatternEmptyWrong : ChangeSpec := { name := "fnPatternEmpty", fn := fun _ => fun
  | [d1, d2] => { results := [.lit (.bool false)], args := [d1, d2] }
  | _ => none }
def FnPatternEmptyWrongFalsely : Prop := fnPatternEmptyRow.holds Try.pinned (OpenSpec.ofChange fnPatternEmptyWrong)

/-- 'laws.FnPatternLast': WHATEVER THE INPUT: true; the input reads as it did. -/
def fnPatternLastSpec : ChangeSpec := { name := "fnPatternLast", fn := fun _ => fun
  | [d1, d2, d3] => { results := [.lit (.bool true)], args := [d1, d2, d3] }
  | _ => none }
def fnPatternLastRow : OpenClaim := { program := "ytelmpgonfcgjnaa", sum := "de89bbf31757e794c7261a24c2ae1843a4507706b240a96f616db08f91217f11", func := "loop.example/pub-g01456/laws.FnPatternLast", spec := "fnPatternLast", apart := false }
def FnPatternLastSaid : Prop := fnPatternLastRow.holds Try.pinned (OpenSpec.ofChange fnPatternLastSpec)

/-- ITS FALSE NEIGHBOUR: 'it returns false'. Refute it at one input. -/
def fnPatternLastWrong : ChangeSpec := { name := "fnPatternLast", fn := fun _ => fun
  | [d1, d2, d3] => { results := [.lit (.bool false)], args := [d1, d2, d3] }
  | _ => none }
def FnPatternLastWrongFalsely : Prop := fnPatternLastRow.holds Try.pinned (OpenSpec.ofChange fnPatternLastWrong)

/-- 'laws.FnPatternLate': WHATEVER THE INPUT: true; the input reads as it did. -/
def fnPatternLateSpec : ChangeSpec := { name := "fnPatternLate", fn := fun _ => fun
  | [d1, d2, d3] => { results := [.lit (.bool true)], args := [d1, d2, d3] }
  | _ => none }
def fnPatternLateRow : OpenClaim := { program := "ytelmpgonfcgjnaa", sum := "de89bbf31757e794c7261a24c2ae1843a4507706b240a96f616db08f91217f11", func := "loop.example/pub-g01456/laws.FnPatternLate", spec := "fnPatternLate", apart := false }
def FnPatternLateSaid : Prop := fnPatternLateRow.holds Try.pinned (OpenSpec.ofChange fnPatternLateSpec)

/-- ITS FALSE NEIGHBOUR: 'it returns false'. Refute it at one input. -/
def fnPatternLateWrong : ChangeSpec := { name := "fnPatternLate", fn := fun _ => fun
  | [d1, d2, d3] => { results := [.lit (.bool false)], args := [d1, d2, d3] }
  | _ => none }
def FnPatternLateWrongFalsely : Prop := fnPatternLateRow.holds Try.pinned (OpenSpec.ofChange fnPatternLateWrong)

/-- 'laws.FnPatternLeading': WHATEVER THE INPUT: true; the input reads as it did. -/
def fnPatternLeadingSpec : ChangeSpec := { name := "fnPatternLeading", fn := fun _ => fun
  | [d1, d2, d3] => { results := [.lit (.bool true)], args := [d1, d2, d3] }
  | _ => none }
def fnPatternLeadingRow : OpenClaim := { program := "ytelmpgonfcgjnaa", sum := "de89bbf31757e794c7261a24c2ae1843a4507706b240a96f616db08f91217f11", func := "loop.example/pub-g01456/laws.FnPatternLeading", spec := "fnPatternLeading", apart := false }
def FnPatternLeadingSaid : Prop := fnPatternLeadingRow.holds Try.pinned (OpenSpec.ofChange fnPatternLeadingSpec)

/-- ITS FALSE NEIGHBOUR: 'it returns false'. Refute it at one input. -/
def fnPatternLeadingWrong : ChangeSpec := { name := "fnPatternLeading", fn := fun _ => fun
  | [d1, d2, d3] => { results := [.lit (.bool false)], args := [d1, d2, d3] }
  | _ => none }
def FnPatternLeadingWrongFalsely : Prop := fnPatternLeadingRow.holds Try.pinned (OpenSpec.ofChange fnPatternLeadingWrong)

/-- 'laws.FnPatternNone': WHATEVER THE INPUT: true; the input reads as it did. -/
def fnPatternNoneSpec : ChangeSpec := { name := "fnPatternNone", fn := fun _ => fun
  | [d] => { results := [.lit (.bool true)], args := [d] }
  | _ => none }
def fnPatternNoneRow : OpenClaim := { program := "ytelmpgonfcgjnaa", sum := "de89bbf31757e794c7261a24c2ae1843a4507706b240a96f616db08f91217f11", func := "loop.example/pub-g01456/laws.FnPatternNone", spec := "fnPatternNone", apart := false }
def FnPatternNoneSaid : Prop := fnPatternNoneRow.holds Try.pinned (OpenSpec.ofChange fnPatternNoneSpec)

/-- ITS FALSE NEIGHBOUR: 'it returns false'. Refute it at one input. -/
def fnPatternNoneWrong : ChangeSpec := { name := "fnPatternNone", fn := fun _ => fun
  | [d] => { results := [.lit (.bool false)], args := [d] }
  | _ => none }
def FnPatternNoneWrongFalsely : Prop := fnPatternNoneRow.holds Try.pinned (OpenSpec.ofChange fnPatternNoneWrong)

/-- 'laws.FnPatternOther': WHATEVER THE INPUT: true; the input reads as it did. -/
def fnPatternOtherSpec : ChangeSpec := { name := "fnPatternOther", fn := fun _ => fun
  | [d1, d2, d3, d4] => { results := [.lit (.bool true)], args := [d1, d2, d3, d4] }
  | _ => none }
def fnPatternOtherRow : OpenClaim := { program := "ytelmpgonfcgjnaa", sum := "de89bbf31757e794c7261a24c2ae1843a4507706b240a96f616db08f91217f11", func := "loop.example/pub-g01456/laws.FnPatternOther", spec := "fnPatternOther", apart := false }
def FnPatternOtherSaid : Prop := fnPatternOtherRow.holds Try.pinned (OpenSpec.ofChange fnPatternOtherSpec)

/-- ITS FALSE NEIGHBOUR: 'it returns false'. Refute it at one input. -/
def fnPatternOtherWrong : ChangeSpec := { name := "fnPatternOther", fn := fun _ => fun
  | [d1, d2, d3, d4] => { results := [.lit (.bool false)], args := [d1, d2, d3, d4] }
  | _ => none }
def FnPatternOtherWrongFalsely : Prop := fnPatternOtherRow.holds Try.pinned (OpenSpec.ofChange fnPatternOtherWrong)

/-- 'laws.FnPatternParts': WHATEVER THE INPUT: true; the input reads as it did. -/
def fnPatternPartsSpec : ChangeSpec := { name := "fnPatternParts", fn := fun _ => fun
  | [d1, d2] => { results := [.lit (.bool true)], args := [d1, d2] }
  | _ => none }
def fnPatternPartsRow : OpenClaim := { program := "ytelmpgonfcgjnaa", sum := "de89bbf31757e794c7261a24c2ae1843a4507706b240a96f616db08f91217f11", func := "loop.example/pub-g01456/laws.FnPatternParts", spec := "fnPatternParts", apart := false }
def FnPatternPartsSaid : Prop := fnPatternPartsRow.holds Try.pinned (OpenSpec.ofChange fnPatternPartsSpec)

/-- ITS FALSE NEIGHBOUR: 'it returns false'. Refute it at one input. -/
def fnPatternPartsWrong : ChangeSpec := { name := "fnPatternParts", fn := fun _ => fun
  | [d1, d2] => { results := [.lit (.bool false)], args := [d1, d2] }
  | _ => none }
def FnPatternPartsWrongFalsely : Prop := fnPatternPartsRow.holds Try.pinned (OpenSpec.ofChange fnPatternPartsWrong)

/-- 'laws.FnPatternReference': WHATEVER THE INPUT: true; the input reads as it did. -/
def fnPatternReferenceSpec : ChangeSpec := { name := "fnPatternReference", fn := fun _ => fun
  | [d1, d2] => { results := [.lit (.bool true)], args := [d1, d2] }
  | _ => none }
def fnPatternReferenceRow : OpenClaim := { program := "ytelmpgonfcgjnaa", sum := "de89bbf31757e794c7261a24c2ae1843a4507706b240a96f616db08f91217f11", func := "loop.example/pub-g01456/laws.FnPatternReference", spec := "fnPatternReference", apart := false }
def FnPatternReferenceSaid : Prop := fnPatternReferenceRow.holds Try.pinned (OpenSpec.ofChange fnPatternReferenceSpec)

/-- ITS FALSE NEIGHBOUR: 'it returns false'. Refute it at one input. -/
def fnPatternReferenceWrong : ChangeSpec := { name := "fnPatternReference", fn := fun _ => fun
  | [d1, d2] => { results := [.lit (.bool false)], args := [d1, d2] }
  | _ => none }
def FnPatternReferenceWrongFalsely : Prop := fnPatternReferenceRow.holds Try.pinned (OpenSpec.ofChange fnPatternReferenceWrong)

/-- 'laws.FnPatternTurned': WHATEVER THE INPUT: true; the input reads as it did. -/
def fnPatternTurnedSpec : ChangeSpec := { name := "fnPatternTurned", fn := fun _ => fun
  | [d1, d2] => { results := [.lit (.bool true)], args := [d1, d2] }
  | _ => none }
def fnPatternTurnedRow : OpenClaim := { program := "ytelmpgonfcgjnaa", sum := "de89bbf31757e794c7261a24c2ae1843a4507706b240a96f616db08f91217f11", func := "loop.example/pub-g01456/laws.FnPatternTurned", spec := "fnPatternTurned", apart := false }
def FnPatternTurnedSaid : Prop := fnPatternTurnedRow.holds Try.pinned (OpenSpec.ofChange fnPatternTurnedSpec)

/-- ITS FALSE NEIGHBOUR: 'it returns false'. Refute it at one input. -/
def fnPatternTurnedWrong : ChangeSpec := { name := "fnPatternTurned", fn := fun _ => fun
  | [d1, d2] => { results := [.lit (.bool false)], args := [d1, d2] }
  | _ => none }
def FnPatternTurnedWrongFalsely : Prop := fnPatternTurnedRow.holds Try.pinned (OpenSpec.ofChange fnPatternTurnedWrong)

/-- 'laws.FnPatternVisible': WHATEVER THE INPUT: true; the input reads as it did. -/
def fnPatternVisibleSpec : ChangeSpec := { name := "fnPatternVisible", fn := fun _ => fun
  | [d1, d2] => { results := [.lit (.bool true)], args := [d1, d2] }
  | _ => none }
def fnPatternVisibleRow : OpenClaim := { program := "ytelmpgonfcgjnaa", sum := "de89bbf31757e794c7261a24c2ae1843a4507706b240a96f616db08f91217f11", func := "loop.example/pub-g01456/laws.FnPatternVisible", spec := "fnPatternVisible", apart := false }
def FnPatternVisibleSaid : Prop := fnPatternVisibleRow.holds Try.pinned (OpenSpec.ofChange fnPatternVisibleSpec)

/-- ITS FALSE NEIGHBOUR: 'it returns false'. Refute it at one input. -/
def fnPatternVisibleWrong : ChangeSpec := { name := "fnPatternVisible", fn := fun _ => fun
  | [d1, d2] => { results := [.lit (.bool false)], args := [d1, d2] }
  | _ => none }
def FnPatternVisibleWrongFalsely : Prop := fnPatternVisibleRow.holds Try.pinned (OpenSpec.ofChange fnPatternVisibleWrong)

/- THE SECOND FORM. 'bulk': how many values and letters a reading holds, each counted each time it is reached (what is shared counts as often as it is met; a slice's spare places count too). A statement '..UptoSaid' is the law's where the arguments, and the package variables that the reading takes, are together of bulk at most 1048576: NARROWER than '..Said'. Prove '..Said' where nothing that the law and all that it calls make is longer than what came in: it says more and counts as full. Else prove '..UptoSaid'. A law counts once. -/
mutual
def uptoBulk {H : Type} : DataW H → Nat
  | .lit (.string bytes) => bytes.length + 1
  | .lit _ => 1
  | .nil => 1
  | .ptr d => uptoBulk d + 1
  | .slice elems spare => uptoBulkAll elems + uptoBulkAll spare + 1
  | .agg parts => uptoBulkAll parts + 1
  | .iface _ d => uptoBulk d + 1
  | .map entries => uptoBulkEntries entries + 1
  | .held _ => 1
def uptoBulkAll {H : Type} : List (DataW H) → Nat
  | [] => 0
  | d :: r => uptoBulk d + uptoBulkAll r
def uptoBulkEntries {H : Type} : List (Lit × DataW H) → Nat
  | [] => 0
  | x :: r => uptoBulkEntry x + uptoBulkEntries r
def uptoBulkEntry {H : Type} : Lit × DataW H → Nat
  | (.string bytes, d) => bytes.length + uptoBulk d + 1
  | (_, d) => uptoBulk d + 1
 end
def uptoSmall : (H : Type) → List (DataW H) → Bool := fun _ ds => decide (uptoBulkAll ds ≤ 1048576)
def OpenSpec.upto (s : _root_.Go.ChangeSpec) : _root_.Go.OpenSpec := { _root_.Go.OpenSpec.ofChange s with cond := some uptoSmall }

/-- 'laws.FnPatternConditions', WHERE WHAT IT READS IS OF BULK AT MOST 1048576: true; the input reads as it did. -/
def fnPatternConditionsUptoRow : OpenClaim := { program := "ytelmpgonfcgjnaa", sum := "de89bbf31757e794c7261a24c2ae1843a4507706b240a96f616db08f91217f11", func := "loop.example/pub-g01456/laws.FnPatternConditions", spec := "fnPatternConditions", apart := false, narrowed := true }
def FnPatternConditionsUptoSaid : Prop := fnPatternConditionsUptoRow.holds Try.pinned (OpenSpec.upto fnPatternConditionsSpec)

/-- 'laws.FnPatternAll', WHERE WHAT IT READS IS OF BULK AT MOST 1048576: true; the input reads as it did. -/
def fnPatternAllUptoRow : OpenClaim := { program := "ytelmpgonfcgjnaa", sum := "de89bbf31757e794c7261a24c2ae1843a4507706b240a96f616db08f91217f11", func := "loop.example/pub-g01456/laws.FnPatternAll", spec := "fnPatternAll", apart := false, narrowed := true }
def FnPatternAllUptoSaid : Prop := fnPatternAllUptoRow.holds Try.pinned (OpenSpec.upto fnPatternAllSpec)

/-- 'laws.FnPatternEmpty', WHERE WHAT IT READS IS OF BULK AT MOST 1048576: true; the input reads as it did. -/
def fnPatternEmptyUptoRow : OpenClaim := { program := "ytelmpgonfcgjnaa", sum := "de89bbf31757e794c7261a24c2ae1843a4507706b240a96f616db08f91217f11", func := "loop.example/pub-g01456/laws.FnPatternEmpty", spec := "fnPatternEmpty", apart := false, narrowed := true }
def FnPatternEmptyUptoSaid : Prop := fnPatternEmptyUptoRow.holds Try.pinned (OpenSpec.upto fnPatternEmptySpec)

/-- 'laws.FnPatternLast', WHERE WHAT IT READS IS OF BULK AT MOST 1048576: true; the input reads as it did. -/
def fnPatternLastUptoRow : OpenClaim := { program := "ytelmpgonfcgjnaa", sum := "de89bbf31757e794c7261a24c2ae1843a4507706b240a96f616db08f91217f11", func := "loop.example/pub-g01456/laws.FnPatternLast", spec := "fnPatternLast", apart := false, narrowed := true }
def FnPatternLastUptoSaid : Prop := fnPatternLastUptoRow.holds Try.pinned (OpenSpec.upto fnPatternLastSpec)

/-- 'laws.FnPatternLate', WHERE WHAT IT READS IS OF BULK AT MOST 1048576: true; the input reads as it did. -/
def fnPatternLateUptoRow : OpenClaim := { program := "ytelmpgonfcgjnaa", sum := "de89bbf31757e794c7261a24c2ae1843a4507706b240a96f616db08f91217f11", func := "loop.example/pub-g01456/laws.FnPatternLate", spec := "fnPatternLate", apart := false, narrowed := true }
def FnPatternLateUptoSaid : Prop := fnPatternLateUptoRow.holds Try.pinned (OpenSpec.upto fnPatternLateSpec)

/-- 'laws.FnPatternLeading', WHERE WHAT IT READS IS OF BULK AT MOST 1048576: true; the input reads as it did. -/
def fnPatternLeadingUptoRow : OpenClaim := { program := "ytelmpgonfcgjnaa", sum := "de89bbf31757e794c7261a24c2ae1843a4507706b240a96f616db08f91217f11", func := "loop.example/pub-g01456/laws.FnPatternLeading", spec := "fnPatternLeading", apart := false, narrowed := true }
def FnPatternLeadingUptoSaid : Prop := fnPatternLeadingUptoRow.holds Try.pinned (OpenSpec.upto fnPatternLeadingSpec)

/-- 'laws.FnPatternNone', WHERE WHAT IT READS IS OF BULK AT MOST 1048576: true; the input reads as it did. -/
def fnPatternNoneUptoRow : OpenClaim := { program := "ytelmpgonfcgjnaa", sum := "de89bbf31757e794c7261a24c2ae1843a4507706b240a96f616db08f91217f11", func := "loop.example/pub-g01456/laws.FnPatternNone", spec := "fnPatternNone", apart := false, narrowed := true }
def FnPatternNoneUptoSaid : Prop := fnPatternNoneUptoRow.holds Try.pinned (OpenSpec.upto fnPatternNoneSpec)

/-- 'laws.FnPatternOther', WHERE WHAT IT READS IS OF BULK AT MOST 1048576: true; the input reads as it did. -/
def fnPatternOtherUptoRow : OpenClaim := { program := "ytelmpgonfcgjnaa", sum := "de89bbf31757e794c7261a24c2ae1843a4507706b240a96f616db08f91217f11", func := "loop.example/pub-g01456/laws.FnPatternOther", spec := "fnPatternOther", apart := false, narrowed := true }
def FnPatternOtherUptoSaid : Prop := fnPatternOtherUptoRow.holds Try.pinned (OpenSpec.upto fnPatternOtherSpec)

/-- 'laws.FnPatternParts', WHERE WHAT IT READS IS OF BULK AT MOST 1048576: true; the input reads as it did. -/
def fnPatternPartsUptoRow : OpenClaim := { program := "ytelmpgonfcgjnaa", sum := "de89bbf31757e794c7261a24c2ae1843a4507706b240a96f616db08f91217f11", func := "loop.example/pub-g01456/laws.FnPatternParts", spec := "fnPatternParts", apart := false, narrowed := true }
def FnPatternPartsUptoSaid : Prop := fnPatternPartsUptoRow.holds Try.pinned (OpenSpec.upto fnPatternPartsSpec)

/-- 'laws.FnPatternReference', WHERE WHAT IT READS IS OF BULK AT MOST 1048576: true; the input reads as it did. -/
def fnPatternReferenceUptoRow : OpenClaim := { program := "ytelmpgonfcgjnaa", sum := "de89bbf31757e794c7261a24c2ae1843a4507706b240a96f616db08f91217f11", func := "loop.example/pub-g01456/laws.FnPatternReference", spec := "fnPatternReference", apart := false, narrowed := true }
def FnPatternReferenceUptoSaid : Prop := fnPatternReferenceUptoRow.holds Try.pinned (OpenSpec.upto fnPatternReferenceSpec)

/-- 'laws.FnPatternTurned', WHERE WHAT IT READS IS OF BULK AT MOST 1048576: true; the input reads as it did. -/
def fnPatternTurnedUptoRow : OpenClaim := { program := "ytelmpgonfcgjnaa", sum := "de89bbf31757e794c7261a24c2ae1843a4507706b240a96f616db08f91217f11", func := "loop.example/pub-g01456/laws.FnPatternTurned", spec := "fnPatternTurned", apart := false, narrowed := true }
def FnPatternTurnedUptoSaid : Prop := fnPatternTurnedUptoRow.holds Try.pinned (OpenSpec.upto fnPatternTurnedSpec)

/-- 'laws.FnPatternVisible', WHERE WHAT IT READS IS OF BULK AT MOST 1048576: true; the input reads as it did. -/
def fnPatternVisibleUptoRow : OpenClaim := { program := "ytelmpgonfcgjnaa", sum := "de89bbf31757e794c7261a24c2ae1843a4507706b240a96f616db08f91217f11", func := "loop.example/pub-g01456/laws.FnPatternVisible", spec := "fnPatternVisible", apart := false, narrowed := true }
def FnPatternVisibleUptoSaid : Prop := fnPatternVisibleUptoRow.holds Try.pinned (OpenSpec.upto fnPatternVisibleSpec)

end Rows
end Go.Proofs.Ytelmpgonfcgjnaa
