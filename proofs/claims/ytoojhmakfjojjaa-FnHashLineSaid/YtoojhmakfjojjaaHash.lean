/-
  The contracts of bisect.Hash at a text and a number, and of impl.HashLine. For every text and number.
-/
import Derived.Test.YtoojhmakfjojjaaFnvNum
import Derived.LoopN
namespace Go.Proofs.Ytoojhmakfjojjaa
open Go.RowKit Go.PlainAid

theorem asStr (s : ByteArray) (w : World) : (Instr.typeAssert (.iface 9 (.string s)) 20 9 true).run Try.prog w = .ok (.tuple #[.string s, .bool true]) w := by kernel_rfl
theorem intStr (n : Int) (w : World) : (Instr.typeAssert (.iface 3 (.int .i64 n)) 20 9 true).run Try.prog w = .ok (.tuple #[.string ByteArray.empty, .bool false]) w := by kernel_rfl
theorem intU8 (n : Int) (w : World) : (Instr.typeAssert (.iface 3 (.int .i64 n)) 20 5 true).run Try.prog w = .ok (.tuple #[.int .u8 0, .bool false]) w := by kernel_rfl
theorem intInt (n : Int) (w : World) : (Instr.typeAssert (.iface 3 (.int .i64 n)) 20 3 true).run Try.prog w = .ok (.tuple #[.int .i64 n, .bool true]) w := by kernel_rfl

set_option maxRecDepth 100000 in
set_option maxHeartbeats 1000000 in
theorem hash_any (s : ByteArray) (n : Int) (w : World) (hs : s.size ≤ maxLen) (h0 : 0 ≤ IntKind.u64.wrap n) (hn : (Lit.int .u64 (IntKind.u64.wrap n)).wf = true) (b : Nat) (t : TypeId)
    (hb : w.heap[b]? = some (.cells #[.iface 9 (.string s), .iface 3 (.int .i64 n)] t (0, 0))) :
    Calls Try.prog 22 #[.slice (some ⟨b, 0, none⟩) 2 2] w fun e w' => e = .returned (.int .u64 (fnvN (IntKind.u64.wrap n) (fnvS s 14695981039346656037 s.size) 8)) ∧ w = w' := by
  have c0 : w.cell? ⟨b, 0, none⟩ = some (.iface 9 (.string s)) := cell_of_row w b 0 _ _ _ hb
  have c1 : w.cell? ⟨b, 1, none⟩ = some (.iface 3 (.int .i64 n)) := cell_of_row w b 1 _ _ _ hb
  have HS := Lib.hid hs
  have H0 := Lib.hid h0
  have HN := Lib.hid hn
  clear hb hs h0 hn
  have q1 := fun w => asStr s w
  have q2 := fun w => intStr n w
  have q3 := fun w => intU8 n w
  have q4 := fun w => intInt n w
  go_enter Try.func22, Try.ntmps22
  go_wp2
  refine wp_loop_rounds 3 ?_
  rw [rounds_succ]
  go_wp2_with (first | (go_at_call 26; refine (fnvString_any _ s _ HS.out).mono ?_; rintro e w' ⟨rfl, rfl⟩) | (go_at_call 27; refine (fnvUint64_any _ _ _ H0.out HN.out).mono ?_; rintro e w' ⟨rfl, rfl⟩))
  rw [rounds_succ]
  go_wp2_with (first | (go_at_call 26; refine (fnvString_any _ s _ HS.out).mono ?_; rintro e w' ⟨rfl, rfl⟩) | (go_at_call 27; refine (fnvUint64_any _ _ _ H0.out HN.out).mono ?_; rintro e w' ⟨rfl, rfl⟩))
  rw [rounds_succ]
  go_wp2
  go_ret
  exact ⟨rfl, rfl⟩
end Go.Proofs.Ytoojhmakfjojjaa
