/-
  The contracts of bisect.Hash at a text and a number, and of impl.HashLine. For every text and number.
-/
import Derived.Test.YtnjdckhaecdldaaFnvNumP
import Derived.LoopN
namespace Go.Proofs.Ytnjdckhaecdldaa
open Go.RowKit Go.PlainAid

theorem asStr (s : ByteArray) (w : World) : (Instr.typeAssert (.iface 9 (.string s)) 20 9 true).run Try.prog w = .ok (.tuple #[.string s, .bool true]) w := by kernel_rfl
theorem intStr (n : Int) (w : World) : (Instr.typeAssert (.iface 3 (.int .i64 n)) 20 9 true).run Try.prog w = .ok (.tuple #[.string ByteArray.empty, .bool false]) w := by kernel_rfl
theorem intU8 (n : Int) (w : World) : (Instr.typeAssert (.iface 3 (.int .i64 n)) 20 5 true).run Try.prog w = .ok (.tuple #[.int .u8 0, .bool false]) w := by kernel_rfl
theorem intInt (n : Int) (w : World) : (Instr.typeAssert (.iface 3 (.int .i64 n)) 20 3 true).run Try.prog w = .ok (.tuple #[.int .i64 n, .bool true]) w := by kernel_rfl

set_option maxRecDepth 100000 in
set_option maxHeartbeats 1000000 in
theorem hash_any (s : ByteArray) (n : Int) (w : World) (hs : s.size ≤ maxLen) (h0 : 0 ≤ IntKind.u64.wrap n) (hn : (Lit.int .u64 (IntKind.u64.wrap n)).wf = true) (b : Nat) (t : TypeId)
    (hb : w.heap[b]? = some (.cells #[.iface 9 (.string s), .iface 3 (.int .i64 n)] t (0, 0))) :
    Calls Try.prog 25 #[.slice (some ⟨b, 0, none⟩) 2 2] w fun e w' => e = .returned (.int .u64 (fnvN (IntKind.u64.wrap n) (fnvS s 14695981039346656037 s.size) 8)) ∧ w = w' := by
  have c0 : w.cell? ⟨b, 0, none⟩ = some (.iface 9 (.string s)) := cell_of_row w b 0 _ _ _ hb
  have c1 : w.cell? ⟨b, 1, none⟩ = some (.iface 3 (.int .i64 n)) := cell_of_row w b 1 _ _ _ hb
  have HS := Lib.hid hs
  have H0 := Lib.hid h0
  have HN := Lib.hid hn
  clear hb hs h0 hn
  have q1 := fun w => asStr s w
  have q2 := fun w => intStr n w
  have q3 := fun w => intU8 n w
  have q4 := fun w => intInt n w
  go_enter Try.func25, Try.ntmps25
  go_wp2
  refine wp_loop_rounds 3 ?_
  rw [rounds_succ]
  go_wp2_with (first | (go_at_call 34; refine (fnvString_any _ s _ HS.out).mono ?_; rintro e w' ⟨rfl, rfl⟩) | (go_at_call 36; refine (fnvUint64_any _ _ _ H0.out HN.out).mono ?_; rintro e w' ⟨rfl, rfl⟩))
  rw [rounds_succ]
  go_wp2_with (first | (go_at_call 34; refine (fnvString_any _ s _ HS.out).mono ?_; rintro e w' ⟨rfl, rfl⟩) | (go_at_call 36; refine (fnvUint64_any _ _ _ H0.out HN.out).mono ?_; rintro e w' ⟨rfl, rfl⟩))
  rw [rounds_succ]
  go_wp2
  go_ret
  exact ⟨rfl, rfl⟩
theorem wrap_u64_ok (n : Int) : 0 ≤ IntKind.u64.wrap n ∧ (Lit.int .u64 (IntKind.u64.wrap n)).wf = true := by
  have e : IntKind.u64.wrap n = n % 18446744073709551616 := rfl
  rw [e]
  have h0 : 0 ≤ n % 18446744073709551616 := by omega
  have h1 : n % 18446744073709551616 < 18446744073709551616 := by omega
  refine ⟨h0, ?_⟩
  simp [Lit.wf, IntKind.min, IntKind.max, IntKind.signed, IntKind.bits]
  omega

def hashPost (s : ByteArray) (n : Int) (w : World) (e : Ending) (w' : World) : Prop :=
  e = .returned (.int .u64 (fnvN (IntKind.u64.wrap n) (fnvS s 14695981039346656037 s.size) 8)) ∧ Below w.heap.size w w'
theorem implHashLine_any (s : ByteArray) (n : Int) (w : World) (hs : s.size ≤ maxLen) :
    Calls Try.prog 13 #[.string s, .int .i64 n] w (hashPost s n w) := by
  have HS := Lib.hid hs
  clear hs
  go_enter Try.func13, Try.ntmps13
  go_wp2_with fail
  refine (hash_any s n _ HS.out (wrap_u64_ok n).1 (wrap_u64_ok n).2 _ _ (heap_alloc_new _ _)).mono ?_
  rintro e w' ⟨rfl, rfl⟩
  go_wp2
  go_ret
  exact ⟨rfl, (Below.refl _ _).alloc (Nat.le_refl _) _⟩

end Go.Proofs.Ytnjdckhaecdldaa
