/-
  No cell of these rows narrows 'for every input' (looked for: loops, veiled, ifaces, maps, wideKeys, modest, calm, conditions, laid).
  DERIVED. THE GIVEN ROWS OF THIS SEAT. 6 by the template 'for every input the law returns true; each argument reads behind the call as it read before'; 0 by the template 'total and deterministic' (their statements: YtoojhmakfjojjaaTotals.lean).
  GIVEN WITH THE SEED: the statements are not yours to turn. If you find one false, say at which input.
  Laid BY PROGRAM, IN A SANDBOX (cutbox-rows.mjs): the forced cells as the released guide's own fill.sh prints them over the translation 1196a8d512dc8fe8… (all of the seat's roots in one cut). By AI agents, Wed Nov 11 2026. No macro, syntax, notation, axiom, sorry.
-/
import Derived.Test.YtoojhmakfjojjaaChecked
import GoSem.Claim
import GoSem.ClaimJoined
import GoSem.ClaimMapViews
import Derived.JoinedTies
import Derived.KernelRfl
namespace Go.Proofs.Ytoojhmakfjojjaa
/- THE CELL 'sum', in the pinned program and in every row, IS THE sha256 OF THE DUMP (.gsa) THAT YtoojhmakfjojjaaProg.lean LOADS. Nothing in Lean hashes anything: it is a label: what it is worth is what the hold of that sum in a sandbox is worth. -/
noncomputable def Try.pinned : Pinned := { name := "ytoojhmakfjojjaa", sum := "1196a8d512dc8fe86b69292fe3e469d8cbd83edb3e113469e610cd16044d9190", checked := Try.checked }
namespace Rows
def none {H : Type} : Left H := { results := [], args := [] }

/-- 'laws.FnFnvByte': WHATEVER THE INPUT: true; the input reads as it did. -/
def fnFnvByteSpec : ChangeSpec := { name := "fnFnvByte", fn := fun _ => fun
  | [d1, d2] => { results := [.lit (.bool true)], args := [d1, d2] }
  | _ => none }
def fnFnvByteRow : OpenClaim := { program := "ytoojhmakfjojjaa", sum := "1196a8d512dc8fe86b69292fe3e469d8cbd83edb3e113469e610cd16044d9190", func := "loop.example/pub-g01456/laws.FnFnvByte", spec := "fnFnvByte", apart := false }
def FnFnvByteSaid : Prop := fnFnvByteRow.holds Try.pinned (OpenSpec.ofChange fnFnvByteSpec)

/-- ITS FALSE NEIGHBOUR: 'it returns false'. Refute it at one input. -/
def fnFnvByteWrong : ChangeSpec := { name := "fnFnvByte", fn := fun _ => fun
  | [d1, d2] => { results := [.lit (.bool false)], args := [d1, d2] }
  | _ => none }
def FnFnvByteWrongFalsely : Prop := fnFnvByteRow.holds Try.pinned (OpenSpec.ofChange fnFnvByteWrong)

/-- 'laws.FnFnvText': WHATEVER THE INPUT: true; the input reads as it did. -/
def fnFnvTextSpec : ChangeSpec := { name := "fnFnvText", fn := fun _ => fun
  | [d1, d2] => { results := [.lit (.bool true)], args := [d1, d2] }
  | _ => none }
def fnFnvTextRow : OpenClaim := { program := "ytoojhmakfjojjaa", sum := "1196a8d512dc8fe86b69292fe3e469d8cbd83edb3e113469e610cd16044d9190", func := "loop.example/pub-g01456/laws.FnFnvText", spec := "fnFnvText", apart := false }
def FnFnvTextSaid : Prop := fnFnvTextRow.holds Try.pinned (OpenSpec.ofChange fnFnvTextSpec)

/-- ITS FALSE NEIGHBOUR: 'it returns false'. Refute it at one input. -/
def fnFnvTextWrong : ChangeSpec := { name := "fnFnvText", fn := fun _ => fun
  | [d1, d2] => { results := [.lit (.bool false)], args := [d1, d2] }
  | _ => none }
def FnFnvTextWrongFalsely : Prop := fnFnvTextRow.holds Try.pinned (OpenSpec.ofChange fnFnvTextWrong)

/-- 'laws.FnFnvNumber': WHATEVER THE INPUT: true; the input reads as it did. -/
def fnFnvNumberSpec : ChangeSpec := { name := "fnFnvNumber", fn := fun _ => fun
  | [d1, d2] => { results := [.lit (.bool true)], args := [d1, d2] }
  | _ => none }
def fnFnvNumberRow : OpenClaim := { program := "ytoojhmakfjojjaa", sum := "1196a8d512dc8fe86b69292fe3e469d8cbd83edb3e113469e610cd16044d9190", func := "loop.example/pub-g01456/laws.FnFnvNumber", spec := "fnFnvNumber", apart := false }
def FnFnvNumberSaid : Prop := fnFnvNumberRow.holds Try.pinned (OpenSpec.ofChange fnFnvNumberSpec)

/-- ITS FALSE NEIGHBOUR: 'it returns false'. Refute it at one input. -/
def fnFnvNumberWrong : ChangeSpec := { name := "fnFnvNumber", fn := fun _ => fun
  | [d1, d2] => { results := [.lit (.bool false)], args := [d1, d2] }
  | _ => none }
def FnFnvNumberWrongFalsely : Prop := fnFnvNumberRow.holds Try.pinned (OpenSpec.ofChange fnFnvNumberWrong)

/-- 'laws.FnHashLine': WHATEVER THE INPUT: true; the input reads as it did. -/
def fnHashLineSpec : ChangeSpec := { name := "fnHashLine", fn := fun _ => fun
  | [d1, d2] => { results := [.lit (.bool true)], args := [d1, d2] }
  | _ => none }
def fnHashLineRow : OpenClaim := { program := "ytoojhmakfjojjaa", sum := "1196a8d512dc8fe86b69292fe3e469d8cbd83edb3e113469e610cd16044d9190", func := "loop.example/pub-g01456/laws.FnHashLine", spec := "fnHashLine", apart := false }
def FnHashLineSaid : Prop := fnHashLineRow.holds Try.pinned (OpenSpec.ofChange fnHashLineSpec)

/-- ITS FALSE NEIGHBOUR: 'it returns false'. Refute it at one input. -/
def fnHashLineWrong : ChangeSpec := { name := "fnHashLine", fn := fun _ => fun
  | [d1, d2] => { results := [.lit (.bool false)], args := [d1, d2] }
  | _ => none }
def FnHashLineWrongFalsely : Prop := fnHashLineRow.holds Try.pinned (OpenSpec.ofChange fnHashLineWrong)

/-- 'laws.FnSeenLossy': WHATEVER THE INPUT: true; the input reads as it did. -/
def fnSeenLossySpec : ChangeSpec := { name := "fnSeenLossy", fn := fun _ => fun
  | [d] => { results := [.lit (.bool true)], args := [d] }
  | _ => none }
def fnSeenLossyRow : OpenClaim := { program := "ytoojhmakfjojjaa", sum := "1196a8d512dc8fe86b69292fe3e469d8cbd83edb3e113469e610cd16044d9190", func := "loop.example/pub-g01456/laws.FnSeenLossy", spec := "fnSeenLossy", inPlace := ["sync/atomic.LoadUint64", "sync/atomic.StoreUint64"], apart := false }
def FnSeenLossySaid : Prop := fnSeenLossyRow.holds Try.pinned (OpenSpec.ofChange fnSeenLossySpec)

/-- ITS FALSE NEIGHBOUR: 'it returns false'. Refute it at one input. -/
def fnSeenLossyWrong : ChangeSpec := { name := "fnSeenLossy", fn := fun _ => fun
  | [d] => { results := [.lit (.bool false)], args := [d] }
  | _ => none }
def FnSeenLossyWrongFalsely : Prop := fnSeenLossyRow.holds Try.pinned (OpenSpec.ofChange fnSeenLossyWrong)

/-- 'laws.FnSeenAll': WHATEVER THE INPUT: true; the input reads as it did. -/
def fnSeenAllSpec : ChangeSpec := { name := "fnSeenAll", fn := fun _ => fun
  | [d] => { results := [.lit (.bool true)], args := [d] }
  | _ => none }
def fnSeenAllRow : OpenClaim := { program := "ytoojhmakfjojjaa", sum := "1196a8d512dc8fe86b69292fe3e469d8cbd83edb3e113469e610cd16044d9190", func := "loop.example/pub-g01456/laws.FnSeenAll", spec := "fnSeenAll", inPlace := ["(*internal/sync.Mutex).Lock", "internal/race.Disable", "sync/atomic.CompareAndSwapInt32", "internal/race.Enable", "internal/race.Acquire", "(*internal/sync.Mutex).lockSlow", "internal/sync.runtime_canSpin", "internal/sync.runtime_doSpin", "internal/sync.throw", "internal/sync.runtime_nanotime", "internal/sync.runtime_SemacquireMutex", "sync/atomic.AddInt32", "(*internal/sync.Mutex).Unlock", "internal/race.ReleaseMerge", "(*internal/sync.Mutex).unlockSlow", "internal/sync.fatal", "internal/sync.runtime_Semrelease"], apart := false }
def FnSeenAllSaid : Prop := fnSeenAllRow.holds Try.pinned (OpenSpec.ofChange fnSeenAllSpec)

/-- ITS FALSE NEIGHBOUR: 'it returns false'. Refute it at one input. -/
def fnSeenAllWrong : ChangeSpec := { name := "fnSeenAll", fn := fun _ => fun
  | [d] => { results := [.lit (.bool false)], args := [d] }
  | _ => none }
def FnSeenAllWrongFalsely : Prop := fnSeenAllRow.holds Try.pinned (OpenSpec.ofChange fnSeenAllWrong)

/- THE SECOND FORM. 'bulk': how many values and letters a reading holds, each counted each time it is reached (what is shared counts as often as it is met; a slice's spare places count too). A statement '..UptoSaid' is the law's where the arguments, and the package variables that the reading takes, are together of bulk at most 1048576: NARROWER than '..Said'. Prove '..Said' where nothing that the law and all that it calls make is longer than what came in: it says more and counts as full. Else prove '..UptoSaid'. A law counts once. -/
mutual
def uptoBulk {H : Type} : DataW H → Nat
  | .lit (.string bytes) => bytes.length + 1
  | .lit _ => 1
  | .nil => 1
  | .ptr d => uptoBulk d + 1
  | .slice elems spare => uptoBulkAll elems + uptoBulkAll spare + 1
  | .agg parts => uptoBulkAll parts + 1
  | .iface _ d => uptoBulk d + 1
  | .map entries => uptoBulkEntries entries + 1
  | .held _ => 1
def uptoBulkAll {H : Type} : List (DataW H) → Nat
  | [] => 0
  | d :: r => uptoBulk d + uptoBulkAll r
def uptoBulkEntries {H : Type} : List (Lit × DataW H) → Nat
  | [] => 0
  | x :: r => uptoBulkEntry x + uptoBulkEntries r
def uptoBulkEntry {H : Type} : Lit × DataW H → Nat
  | (.string bytes, d) => bytes.length + uptoBulk d + 1
  | (_, d) => uptoBulk d + 1
 end
def uptoSmall : (H : Type) → List (DataW H) → Bool := fun _ ds => decide (uptoBulkAll ds ≤ 1048576)
def OpenSpec.upto (s : _root_.Go.ChangeSpec) : _root_.Go.OpenSpec := { _root_.Go.OpenSpec.ofChange s with cond := some uptoSmall }

/-- 'laws.FnFnvByte', WHERE WHAT IT READS IS OF BULK AT MOST 1048576: true; the input reads as it did. -/
def fnFnvByteUptoRow : OpenClaim := { program := "ytoojhmakfjojjaa", sum := "1196a8d512dc8fe86b69292fe3e469d8cbd83edb3e113469e610cd16044d9190", func := "loop.example/pub-g01456/laws.FnFnvByte", spec := "fnFnvByte", apart := false, narrowed := true }
def FnFnvByteUptoSaid : Prop := fnFnvByteUptoRow.holds Try.pinned (OpenSpec.upto fnFnvByteSpec)

/-- 'laws.FnFnvText', WHERE WHAT IT READS IS OF BULK AT MOST 1048576: true; the input reads as it did. -/
def fnFnvTextUptoRow : OpenClaim := { program := "ytoojhmakfjojjaa", sum := "1196a8d512dc8fe86b69292fe3e469d8cbd83edb3e113469e610cd16044d9190", func := "loop.example/pub-g01456/laws.FnFnvText", spec := "fnFnvText", apart := false, narrowed := true }
def FnFnvTextUptoSaid : Prop := fnFnvTextUptoRow.holds Try.pinned (OpenSpec.upto fnFnvTextSpec)

/-- 'laws.FnFnvNumber', WHERE WHAT IT READS IS OF BULK AT MOST 1048576: true; the input reads as it did. -/
def fnFnvNumberUptoRow : OpenClaim := { program := "ytoojhmakfjojjaa", sum := "1196a8d512dc8fe86b69292fe3e469d8cbd83edb3e113469e610cd16044d9190", func := "loop.example/pub-g01456/laws.FnFnvNumber", spec := "fnFnvNumber", apart := false, narrowed := true }
def FnFnvNumberUptoSaid : Prop := fnFnvNumberUptoRow.holds Try.pinned (OpenSpec.upto fnFnvNumberSpec)

/-- 'laws.FnHashLine', WHERE WHAT IT READS IS OF BULK AT MOST 1048576: true; the input reads as it did. -/
def fnHashLineUptoRow : OpenClaim := { program := "ytoojhmakfjojjaa", sum := "1196a8d512dc8fe86b69292fe3e469d8cbd83edb3e113469e610cd16044d9190", func := "loop.example/pub-g01456/laws.FnHashLine", spec := "fnHashLine", apart := false, narrowed := true }
def FnHashLineUptoSaid : Prop := fnHashLineUptoRow.holds Try.pinned (OpenSpec.upto fnHashLineSpec)

/-- 'laws.FnSeenLossy', WHERE WHAT IT READS IS OF BULK AT MOST 1048576: true; the input reads as it did. -/
def fnSeenLossyUptoRow : OpenClaim := { program := "ytoojhmakfjojjaa", sum := "1196a8d512dc8fe86b69292fe3e469d8cbd83edb3e113469e610cd16044d9190", func := "loop.example/pub-g01456/laws.FnSeenLossy", spec := "fnSeenLossy", inPlace := ["sync/atomic.LoadUint64", "sync/atomic.StoreUint64"], apart := false, narrowed := true }
def FnSeenLossyUptoSaid : Prop := fnSeenLossyUptoRow.holds Try.pinned (OpenSpec.upto fnSeenLossySpec)

/-- 'laws.FnSeenAll', WHERE WHAT IT READS IS OF BULK AT MOST 1048576: true; the input reads as it did. -/
def fnSeenAllUptoRow : OpenClaim := { program := "ytoojhmakfjojjaa", sum := "1196a8d512dc8fe86b69292fe3e469d8cbd83edb3e113469e610cd16044d9190", func := "loop.example/pub-g01456/laws.FnSeenAll", spec := "fnSeenAll", inPlace := ["(*internal/sync.Mutex).Lock", "internal/race.Disable", "sync/atomic.CompareAndSwapInt32", "internal/race.Enable", "internal/race.Acquire", "(*internal/sync.Mutex).lockSlow", "internal/sync.runtime_canSpin", "internal/sync.runtime_doSpin", "internal/sync.throw", "internal/sync.runtime_nanotime", "internal/sync.runtime_SemacquireMutex", "sync/atomic.AddInt32", "(*internal/sync.Mutex).Unlock", "internal/race.ReleaseMerge", "(*internal/sync.Mutex).unlockSlow", "internal/sync.fatal", "internal/sync.runtime_Semrelease"], apart := false, narrowed := true }
def FnSeenAllUptoSaid : Prop := fnSeenAllUptoRow.holds Try.pinned (OpenSpec.upto fnSeenAllSpec)

end Rows
end Go.Proofs.Ytoojhmakfjojjaa
