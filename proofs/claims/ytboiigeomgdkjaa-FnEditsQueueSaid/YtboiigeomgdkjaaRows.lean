/-
  No cell of these rows narrows 'for every input' (looked for: loops, veiled, ifaces, maps, wideKeys, modest, calm, conditions, laid).
  DERIVED. THE GIVEN ROWS OF THIS SEAT. 10 by the template 'for every input the law returns true; each argument reads behind the call as it read before'; 0 by the template 'total and deterministic' (their statements: YtboiigeomgdkjaaTotals.lean).
  GIVEN WITH THE SEED: the statements are not yours to turn. If you find one false, say at which input.
  Laid BY PROGRAM, IN A SANDBOX (cutbox-rows.mjs): the forced cells as the released guide's own fill.sh prints them over the translation c8f7cf80f0f8d46b… (all of the seat's roots in one cut). By AI agents, Wed Nov 11 2026. No macro, syntax, notation, axiom, sorry.
-/
import Derived.Test.YtboiigeomgdkjaaChecked
import GoSem.Claim
import GoSem.ClaimJoined
import GoSem.ClaimMapViews
import Derived.JoinedTies
import Derived.KernelRfl
namespace Go.Proofs.Ytboiigeomgdkjaa
/- THE CELL 'sum', in the pinned program and in every row, IS THE sha256 OF THE DUMP (.gsa) THAT YtboiigeomgdkjaaProg.lean LOADS. Nothing in Lean hashes anything: it is a label: what it is worth is what the hold of that sum in a sandbox is worth. -/
noncomputable def Try.pinned : Pinned := { name := "ytboiigeomgdkjaa", sum := "c8f7cf80f0f8d46bed70e73d4e89d09260876d0e679e6f8b5701820de4a8fea4", checked := Try.checked }
namespace Rows
def none {H : Type} : Left H := { results := [], args := [] }

/-- 'laws.FnEditsNone': WHATEVER THE INPUT: true; the input reads as it did. -/
def fnEditsNoneSpec : ChangeSpec := { name := "fnEditsNone", fn := fun _ => fun
  | [d] => { results := [.lit (.bool true)], args := [d] }
  | _ => none }
def fnEditsNoneRow : OpenClaim := { program := "ytboiigeomgdkjaa", sum := "c8f7cf80f0f8d46bed70e73d4e89d09260876d0e679e6f8b5701820de4a8fea4", func := "loop.example/pub-g01456/laws.FnEditsNone", spec := "fnEditsNone", unfollowed := true, recurses := true, apart := false }
def FnEditsNoneSaid : Prop := fnEditsNoneRow.holds Try.pinned (OpenSpec.ofChange fnEditsNoneSpec)

/-- ITS FALSE NEIGHBOUR: 'it returns false'. Refute it at one input. -/
def fnEditsNoneWrong : ChangeSpec := { name := "fnEditsNone", fn := fun _ => fun
  | [d] => { results := [.lit (.bool false)], args := [d] }
  | _ => none }
def FnEditsNoneWrongFalsely : Prop := fnEditsNoneRow.holds Try.pinned (OpenSpec.ofChange fnEditsNoneWrong)

/-- 'laws.FnEditsReplaced': WHATEVER THE INPUT: true; the input reads as it did. -/
def fnEditsReplacedSpec : ChangeSpec := { name := "fnEditsReplaced", fn := fun _ => fun
  | [d1, d2] => { results := [.lit (.bool true)], args := [d1, d2] }
  | _ => none }
def fnEditsReplacedRow : OpenClaim := { program := "ytboiigeomgdkjaa", sum := "c8f7cf80f0f8d46bed70e73d4e89d09260876d0e679e6f8b5701820de4a8fea4", func := "loop.example/pub-g01456/laws.FnEditsReplaced", spec := "fnEditsReplaced", unfollowed := true, recurses := true, apart := false }
def FnEditsReplacedSaid : Prop := fnEditsReplacedRow.holds Try.pinned (OpenSpec.ofChange fnEditsReplacedSpec)

/-- ITS FALSE NEIGHBOUR: 'it returns false'. Refute it at one input. -/
def fnEditsReplacedWrong : ChangeSpec := { name := "fnEditsReplaced", fn := fun _ => fun
  | [d1, d2] => { results := [.lit (.bool false)], args := [d1, d2] }
  | _ => none }
def FnEditsReplacedWrongFalsely : Prop := fnEditsReplacedRow.holds Try.pinned (OpenSpec.ofChange fnEditsReplacedWrong)

/-- 'laws.FnEditDelete': WHATEVER THE INPUT: true; the input reads as it did. -/
def fnEditDeleteSpec : ChangeSpec := { name := "fnEditDelete", fn := fun _ => fun
  | [d1, d2, d3] => { results := [.lit (.bool true)], args := [d1, d2, d3] }
  | _ => none }
def fnEditDeleteRow : OpenClaim := { program := "ytboiigeomgdkjaa", sum := "c8f7cf80f0f8d46bed70e73d4e89d09260876d0e679e6f8b5701820de4a8fea4", func := "loop.example/pub-g01456/laws.FnEditDelete", spec := "fnEditDelete", unfollowed := true, recurses := true, apart := false }
def FnEditDeleteSaid : Prop := fnEditDeleteRow.holds Try.pinned (OpenSpec.ofChange fnEditDeleteSpec)

/-- ITS FALSE NEIGHBOUR: 'it returns false'. Refute it at one input. -/
def fnEditDeleteWrong : ChangeSpec := { name := "fnEditDelete", fn := fun _ => fun
  | [d1, d2, d3] => { results := [.lit (.bool false)], args := [d1, d2, d3] }
  | _ => none }
def FnEditDeleteWrongFalsely : Prop := fnEditDeleteRow.holds Try.pinned (OpenSpec.ofChange fnEditDeleteWrong)

/-- 'laws.FnEditInsert': WHATEVER THE INPUT: true; the input reads as it did. -/
def fnEditInsertSpec : ChangeSpec := { name := "fnEditInsert", fn := fun _ => fun
  | [d1, d2, d3] => { results := [.lit (.bool true)], args := [d1, d2, d3] }
  | _ => none }
def fnEditInsertRow : OpenClaim := { program := "ytboiigeomgdkjaa", sum := "c8f7cf80f0f8d46bed70e73d4e89d09260876d0e679e6f8b5701820de4a8fea4", func := "loop.example/pub-g01456/laws.FnEditInsert", spec := "fnEditInsert", unfollowed := true, recurses := true, apart := false }
def FnEditInsertSaid : Prop := fnEditInsertRow.holds Try.pinned (OpenSpec.ofChange fnEditInsertSpec)

/-- ITS FALSE NEIGHBOUR: 'it returns false'. Refute it at one input. -/
def fnEditInsertWrong : ChangeSpec := { name := "fnEditInsert", fn := fun _ => fun
  | [d1, d2, d3] => { results := [.lit (.bool false)], args := [d1, d2, d3] }
  | _ => none }
def FnEditInsertWrongFalsely : Prop := fnEditInsertRow.holds Try.pinned (OpenSpec.ofChange fnEditInsertWrong)

/-- 'laws.FnEditReplace': WHATEVER THE INPUT: true; the input reads as it did. -/
def fnEditReplaceSpec : ChangeSpec := { name := "fnEditReplace", fn := fun _ => fun
  | [d1, d2, d3, d4] => { results := [.lit (.bool true)], args := [d1, d2, d3, d4] }
  | _ => none }
def fnEditReplaceRow : OpenClaim := { program := "ytboiigeomgdkjaa", sum := "c8f7cf80f0f8d46bed70e73d4e89d09260876d0e679e6f8b5701820de4a8fea4", func := "loop.example/pub-g01456/laws.FnEditReplace", spec := "fnEditReplace", unfollowed := true, recurses := true, apart := false }
def FnEditReplaceSaid : Prop := fnEditReplaceRow.holds Try.pinned (OpenSpec.ofChange fnEditReplaceSpec)

/-- ITS FALSE NEIGHBOUR: 'it returns false'. Refute it at one input. -/
def fnEditReplaceWrong : ChangeSpec := { name := "fnEditReplace", fn := fun _ => fun
  | [d1, d2, d3, d4] => { results := [.lit (.bool false)], args := [d1, d2, d3, d4] }
  | _ => none }
def FnEditReplaceWrongFalsely : Prop := fnEditReplaceRow.holds Try.pinned (OpenSpec.ofChange fnEditReplaceWrong)

/-- 'laws.FnEditsApplied': WHATEVER THE INPUT: true; the input reads as it did. -/
def fnEditsAppliedSpec : ChangeSpec := { name := "fnEditsApplied", fn := fun _ => fun
  | [d1, d2] => { results := [.lit (.bool true)], args := [d1, d2] }
  | _ => none }
def fnEditsAppliedRow : OpenClaim := { program := "ytboiigeomgdkjaa", sum := "c8f7cf80f0f8d46bed70e73d4e89d09260876d0e679e6f8b5701820de4a8fea4", func := "loop.example/pub-g01456/laws.FnEditsApplied", spec := "fnEditsApplied", unfollowed := true, recurses := true, apart := false }
def FnEditsAppliedSaid : Prop := fnEditsAppliedRow.holds Try.pinned (OpenSpec.ofChange fnEditsAppliedSpec)

/-- ITS FALSE NEIGHBOUR: 'it returns false'. Refute it at one input. -/
def fnEditsAppliedWrong : ChangeSpec := { name := "fnEditsApplied", fn := fun _ => fun
  | [d1, d2] => { results := [.lit (.bool false)], args := [d1, d2] }
  | _ => none }
def FnEditsAppliedWrongFalsely : Prop := fnEditsAppliedRow.holds Try.pinned (OpenSpec.ofChange fnEditsAppliedWrong)

/-- 'laws.FnEditsQueue': WHATEVER THE INPUT: true; the input reads as it did. -/
def fnEditsQueueSpec : ChangeSpec := { name := "fnEditsQueue", fn := fun _ => fun
  | [d1, d2, d3, d4, d5] => { results := [.lit (.bool true)], args := [d1, d2, d3, d4, d5] }
  | _ => none }
def fnEditsQueueRow : OpenClaim := { program := "ytboiigeomgdkjaa", sum := "c8f7cf80f0f8d46bed70e73d4e89d09260876d0e679e6f8b5701820de4a8fea4", func := "loop.example/pub-g01456/laws.FnEditsQueue", spec := "fnEditsQueue", unfollowed := true, recurses := true, apart := false }
def FnEditsQueueSaid : Prop := fnEditsQueueRow.holds Try.pinned (OpenSpec.ofChange fnEditsQueueSpec)

/-- ITS FALSE NEIGHBOUR: 'it returns false'. Refute it at one input. -/
def fnEditsQueueWrong : ChangeSpec := { name := "fnEditsQueue", fn := fun _ => fun
  | [d1, d2, d3, d4, d5] => { results := [.lit (.bool false)], args := [d1, d2, d3, d4, d5] }
  | _ => none }
def FnEditsQueueWrongFalsely : Prop := fnEditsQueueRow.holds Try.pinned (OpenSpec.ofChange fnEditsQueueWrong)

/-- 'laws.FnEditsTurned': WHATEVER THE INPUT: true; the input reads as it did. -/
def fnEditsTurnedSpec : ChangeSpec := { name := "fnEditsTurned", fn := fun _ => fun
  | [d1, d2] => { results := [.lit (.bool true)], args := [d1, d2] }
  | _ => none }
def fnEditsTurnedRow : OpenClaim := { program := "ytboiigeomgdkjaa", sum := "c8f7cf80f0f8d46bed70e73d4e89d09260876d0e679e6f8b5701820de4a8fea4", func := "loop.example/pub-g01456/laws.FnEditsTurned", spec := "fnEditsTurned", unfollowed := true, recurses := true, apart := false }
def FnEditsTurnedSaid : Prop := fnEditsTurnedRow.holds Try.pinned (OpenSpec.ofChange fnEditsTurnedSpec)

/-- ITS FALSE NEIGHBOUR: 'it returns false'. Refute it at one input. -/
def fnEditsTurnedWrong : ChangeSpec := { name := "fnEditsTurned", fn := fun _ => fun
  | [d1, d2] => { results := [.lit (.bool false)], args := [d1, d2] }
  | _ => none }
def FnEditsTurnedWrongFalsely : Prop := fnEditsTurnedRow.holds Try.pinned (OpenSpec.ofChange fnEditsTurnedWrong)

/-- 'laws.FnEditsText': WHATEVER THE INPUT: true; the input reads as it did. -/
def fnEditsTextSpec : ChangeSpec := { name := "fnEditsText", fn := fun _ => fun
  | [d1, d2] => { results := [.lit (.bool true)], args := [d1, d2] }
  | _ => none }
def fnEditsTextRow : OpenClaim := { program := "ytboiigeomgdkjaa", sum := "c8f7cf80f0f8d46bed70e73d4e89d09260876d0e679e6f8b5701820de4a8fea4", func := "loop.example/pub-g01456/laws.FnEditsText", spec := "fnEditsText", unfollowed := true, recurses := true, apart := false }
def FnEditsTextSaid : Prop := fnEditsTextRow.holds Try.pinned (OpenSpec.ofChange fnEditsTextSpec)

/-- ITS FALSE NEIGHBOUR: 'it returns false'. Refute it at one input. -/
def fnEditsTextWrong : ChangeSpec := { name := "fnEditsText", fn := fun _ => fun
  | [d1, d2] => { results := [.lit (.bool false)], args := [d1, d2] }
  | _ => none }
def FnEditsTextWrongFalsely : Prop := fnEditsTextRow.holds Try.pinned (OpenSpec.ofChange fnEditsTextWrong)

/-- 'laws.FnEditsTwice': WHATEVER THE INPUT: true; the input reads as it did. -/
def fnEditsTwiceSpec : ChangeSpec := { name := "fnEditsTwice", fn := fun _ => fun
  | [d1, d2, d3] => { results := [.lit (.bool true)], args := [d1, d2, d3] }
  | _ => none }
def fnEditsTwiceRow : OpenClaim := { program := "ytboiigeomgdkjaa", sum := "c8f7cf80f0f8d46bed70e73d4e89d09260876d0e679e6f8b5701820de4a8fea4", func := "loop.example/pub-g01456/laws.FnEditsTwice", spec := "fnEditsTwice", unfollowed := true, recurses := true, apart := false }
def FnEditsTwiceSaid : Prop := fnEditsTwiceRow.holds Try.pinned (OpenSpec.ofChange fnEditsTwiceSpec)

/-- ITS FALSE NEIGHBOUR: 'it returns false'. Refute it at one input. -/
def fnEditsTwiceWrong : ChangeSpec := { name := "fnEditsTwice", fn := fun _ => fun
  | [d1, d2, d3] => { results := [.lit (.bool false)], args := [d1, d2, d3] }
  | _ => none }
def FnEditsTwiceWrongFalsely : Prop := fnEditsTwiceRow.holds Try.pinned (OpenSpec.ofChange fnEditsTwiceWrong)

/- THE SECOND FORM. 'bulk': how many values and letters a reading holds, each counted each time it is reached (what is shared counts as often as it is met; a slice's spare places count too). A statement '..UptoSaid' is the law's where the arguments, and the package variables that the reading takes, are together of bulk at most 1048576: NARROWER than '..Said'. Prove '..Said' where nothing that the law and all that it calls make is longer than what came in: it says more and counts as full. Else prove '..UptoSaid'. A law counts once. -/
mutual
def uptoBulk {H : Type} : DataW H → Nat
  | .lit (.string bytes) => bytes.length + 1
  | .lit _ => 1
  | .nil => 1
  | .ptr d => uptoBulk d + 1
  | .slice elems spare => uptoBulkAll elems + uptoBulkAll spare + 1
  | .agg parts => uptoBulkAll parts + 1
  | .iface _ d => uptoBulk d + 1
  | .map entries => uptoBulkEntries entries + 1
  | .held _ => 1
def uptoBulkAll {H : Type} : List (DataW H) → Nat
  | [] => 0
  | d :: r => uptoBulk d + uptoBulkAll r
def uptoBulkEntries {H : Type} : List (Lit × DataW H) → Nat
  | [] => 0
  | x :: r => uptoBulkEntry x + uptoBulkEntries r
def uptoBulkEntry {H : Type} : Lit × DataW H → Nat
  | (.string bytes, d) => bytes.length + uptoBulk d + 1
  | (_, d) => uptoBulk d + 1
 end
def uptoSmall : (H : Type) → List (DataW H) → Bool := fun _ ds => decide (uptoBulkAll ds ≤ 1048576)
def OpenSpec.upto (s : _root_.Go.ChangeSpec) : _root_.Go.OpenSpec := { _root_.Go.OpenSpec.ofChange s with cond := some uptoSmall }

/-- 'laws.FnEditsNone', WHERE WHAT IT READS IS OF BULK AT MOST 1048576: true; the input reads as it did. -/
def fnEditsNoneUptoRow : OpenClaim := { program := "ytboiigeomgdkjaa", sum := "c8f7cf80f0f8d46bed70e73d4e89d09260876d0e679e6f8b5701820de4a8fea4", func := "loop.example/pub-g01456/laws.FnEditsNone", spec := "fnEditsNone", unfollowed := true, recurses := true, apart := false, narrowed := true }
def FnEditsNoneUptoSaid : Prop := fnEditsNoneUptoRow.holds Try.pinned (OpenSpec.upto fnEditsNoneSpec)

/-- 'laws.FnEditsReplaced', WHERE WHAT IT READS IS OF BULK AT MOST 1048576: true; the input reads as it did. -/
def fnEditsReplacedUptoRow : OpenClaim := { program := "ytboiigeomgdkjaa", sum := "c8f7cf80f0f8d46bed70e73d4e89d09260876d0e679e6f8b5701820de4a8fea4", func := "loop.example/pub-g01456/laws.FnEditsReplaced", spec := "fnEditsReplaced", unfollowed := true, recurses := true, apart := false, narrowed := true }
def FnEditsReplacedUptoSaid : Prop := fnEditsReplacedUptoRow.holds Try.pinned (OpenSpec.upto fnEditsReplacedSpec)

/-- 'laws.FnEditDelete', WHERE WHAT IT READS IS OF BULK AT MOST 1048576: true; the input reads as it did. -/
def fnEditDeleteUptoRow : OpenClaim := { program := "ytboiigeomgdkjaa", sum := "c8f7cf80f0f8d46bed70e73d4e89d09260876d0e679e6f8b5701820de4a8fea4", func := "loop.example/pub-g01456/laws.FnEditDelete", spec := "fnEditDelete", unfollowed := true, recurses := true, apart := false, narrowed := true }
def FnEditDeleteUptoSaid : Prop := fnEditDeleteUptoRow.holds Try.pinned (OpenSpec.upto fnEditDeleteSpec)

/-- 'laws.FnEditInsert', WHERE WHAT IT READS IS OF BULK AT MOST 1048576: true; the input reads as it did. -/
def fnEditInsertUptoRow : OpenClaim := { program := "ytboiigeomgdkjaa", sum := "c8f7cf80f0f8d46bed70e73d4e89d09260876d0e679e6f8b5701820de4a8fea4", func := "loop.example/pub-g01456/laws.FnEditInsert", spec := "fnEditInsert", unfollowed := true, recurses := true, apart := false, narrowed := true }
def FnEditInsertUptoSaid : Prop := fnEditInsertUptoRow.holds Try.pinned (OpenSpec.upto fnEditInsertSpec)

/-- 'laws.FnEditReplace', WHERE WHAT IT READS IS OF BULK AT MOST 1048576: true; the input reads as it did. -/
def fnEditReplaceUptoRow : OpenClaim := { program := "ytboiigeomgdkjaa", sum := "c8f7cf80f0f8d46bed70e73d4e89d09260876d0e679e6f8b5701820de4a8fea4", func := "loop.example/pub-g01456/laws.FnEditReplace", spec := "fnEditReplace", unfollowed := true, recurses := true, apart := false, narrowed := true }
def FnEditReplaceUptoSaid : Prop := fnEditReplaceUptoRow.holds Try.pinned (OpenSpec.upto fnEditReplaceSpec)

/-- 'laws.FnEditsApplied', WHERE WHAT IT READS IS OF BULK AT MOST 1048576: true; the input reads as it did. -/
def fnEditsAppliedUptoRow : OpenClaim := { program := "ytboiigeomgdkjaa", sum := "c8f7cf80f0f8d46bed70e73d4e89d09260876d0e679e6f8b5701820de4a8fea4", func := "loop.example/pub-g01456/laws.FnEditsApplied", spec := "fnEditsApplied", unfollowed := true, recurses := true, apart := false, narrowed := true }
def FnEditsAppliedUptoSaid : Prop := fnEditsAppliedUptoRow.holds Try.pinned (OpenSpec.upto fnEditsAppliedSpec)

/-- 'laws.FnEditsQueue', WHERE WHAT IT READS IS OF BULK AT MOST 1048576: true; the input reads as it did. -/
def fnEditsQueueUptoRow : OpenClaim := { program := "ytboiigeomgdkjaa", sum := "c8f7cf80f0f8d46bed70e73d4e89d09260876d0e679e6f8b5701820de4a8fea4", func := "loop.example/pub-g01456/laws.FnEditsQueue", spec := "fnEditsQueue", unfollowed := true, recurses := true, apart := false, narrowed := true }
def FnEditsQueueUptoSaid : Prop := fnEditsQueueUptoRow.holds Try.pinned (OpenSpec.upto fnEditsQueueSpec)

/-- 'laws.FnEditsTurned', WHERE WHAT IT READS IS OF BULK AT MOST 1048576: true; the input reads as it did. -/
def fnEditsTurnedUptoRow : OpenClaim := { program := "ytboiigeomgdkjaa", sum := "c8f7cf80f0f8d46bed70e73d4e89d09260876d0e679e6f8b5701820de4a8fea4", func := "loop.example/pub-g01456/laws.FnEditsTurned", spec := "fnEditsTurned", unfollowed := true, recurses := true, apart := false, narrowed := true }
def FnEditsTurnedUptoSaid : Prop := fnEditsTurnedUptoRow.holds Try.pinned (OpenSpec.upto fnEditsTurnedSpec)

/-- 'laws.FnEditsText', WHERE WHAT IT READS IS OF BULK AT MOST 1048576: true; the input reads as it did. -/
def fnEditsTextUptoRow : OpenClaim := { program := "ytboiigeomgdkjaa", sum := "c8f7cf80f0f8d46bed70e73d4e89d09260876d0e679e6f8b5701820de4a8fea4", func := "loop.example/pub-g01456/laws.FnEditsText", spec := "fnEditsText", unfollowed := true, recurses := true, apart := false, narrowed := true }
def FnEditsTextUptoSaid : Prop := fnEditsTextUptoRow.holds Try.pinned (OpenSpec.upto fnEditsTextSpec)

/-- 'laws.FnEditsTwice', WHERE WHAT IT READS IS OF BULK AT MOST 1048576: true; the input reads as it did. -/
def fnEditsTwiceUptoRow : OpenClaim := { program := "ytboiigeomgdkjaa", sum := "c8f7cf80f0f8d46bed70e73d4e89d09260876d0e679e6f8b5701820de4a8fea4", func := "loop.example/pub-g01456/laws.FnEditsTwice", spec := "fnEditsTwice", unfollowed := true, recurses := true, apart := false, narrowed := true }
def FnEditsTwiceUptoSaid : Prop := fnEditsTwiceUptoRow.holds Try.pinned (OpenSpec.upto fnEditsTwiceSpec)

end Rows
end Go.Proofs.Ytboiigeomgdkjaa
