/-
  The contract of impl.HashLine, and the walk of the law FnHashLine. For every input.
-/
import Derived.Test.YtoojhmakfjojjaaHash
import Derived.Test.YtoojhmakfjojjaaFnvNumLaw
namespace Go.Proofs.Ytoojhmakfjojjaa
open Go.RowKit Go.PlainAid

theorem wrap_u64_ok (n : Int) : 0 ≤ IntKind.u64.wrap n ∧ (Lit.int .u64 (IntKind.u64.wrap n)).wf = true := by
  have e : IntKind.u64.wrap n = n % 18446744073709551616 := rfl
  rw [e]
  have h0 : 0 ≤ n % 18446744073709551616 := by omega
  have h1 : n % 18446744073709551616 < 18446744073709551616 := by omega
  refine ⟨h0, ?_⟩
  simp [Lit.wf, IntKind.min, IntKind.max, IntKind.signed, IntKind.bits]
  omega

def hashPost (s : ByteArray) (n : Int) (w : World) (e : Ending) (w' : World) : Prop :=
  e = .returned (.int .u64 (fnvN (IntKind.u64.wrap n) (fnvS s 14695981039346656037 s.size) 8)) ∧ Below w.heap.size w w'
theorem implHashLine_any (s : ByteArray) (n : Int) (w : World) (hs : s.size ≤ maxLen) :
    Calls Try.prog 14 #[.string s, .int .i64 n] w (hashPost s n w) := by
  have HS := Lib.hid hs
  clear hs
  go_enter Try.func14, Try.ntmps14
  go_wp2_with fail
  refine (hash_any s n _ HS.out (wrap_u64_ok n).1 (wrap_u64_ok n).2 _ _ (heap_alloc_new _ _)).mono ?_
  rintro e w' ⟨rfl, rfl⟩
  go_wp2
  go_ret
  exact ⟨rfl, (Below.refl _ _).alloc (Nat.le_refl _) _⟩

set_option maxHeartbeats 2000000 in
theorem walkFnHashLine (w : World) (s : ByteArray) (ws : s.size ≤ maxLen) (n : Int) (_wn : (Lit.int .i64 n).wf = true) :
    Calls Try.prog 6 #[.string s, .int .i64 n] w fun e w' => e = .returned (.bool true) ∧ Below w.heap.size w w' := by
  have WS := Lib.hid ws
  unfold maxLen at ws
  by_cases h1 : 2147483647 < s.size
  · go_enter Try.func6, Try.ntmps6
    go_wp2
    go_ret
    exact ⟨rfl, Below.refl _ _⟩
  by_cases h2 : 1000000 < s.size
  · go_enter Try.func6, Try.ntmps6
    go_wp2_with (go_at_call 10; refine (tooLong_yes1 _ _ (by omega) (by omega) (by omega)).mono ?_; rintro e w' ⟨rfl, rfl⟩)
    go_ret
    exact ⟨rfl, (Below.refl _ _).alloc (Nat.le_refl _) _⟩
  have H1 := Lib.hid (wrap_u64_ok n).1
  have H2 := Lib.hid (wrap_u64_ok n).2
  have wc : (Lit.int .u64 2).wf = true := by decide
  have HB0 := Lib.hid ((Below.refl w.heap.size w).alloc (Nat.le_refl _) (.cells #[.int .i64 (s.size : Int)] 3))
  go_enter Try.func6, Try.ntmps6
  go_wp2_with (go_at_call 10; refine (tooLong_no1 _ _ (by omega) (by omega)).mono ?_; rintro e w' ⟨rfl, rfl⟩)
  refine (implHashLine_any s n _ WS.out).mono ?_
  rintro e w1 ⟨rfl, hb⟩
  have HB := Lib.hid (HB0.out.trans (hb.mono (by simp)))
  clear hb
  generalize hS : fnvS s 14695981039346656037 s.size = S
  have HS := Lib.hid hS
  clear hS
  generalize hF : fnvN (IntKind.u64.wrap n) S 8 = F
  have HF := Lib.hid hF
  clear hF
  go_wp2_with fail
  refine (implFnvString_any _ _ _ WS.out).mono ?_
  rintro e w' ⟨rfl, rfl⟩
  rw [HS.out]
  go_wp2_with fail
  refine (implFnvUint64_any _ _ _ H1.out H2.out).mono ?_
  rintro e w' ⟨rfl, rfl⟩
  rw [HF.out]
  go_wp2_with fail
  refine (implFnvUint64_any _ _ _ (by omega) wc).mono ?_
  rintro e w' ⟨rfl, rfl⟩
  have hN := fnvN_12
  generalize fnvN 2 1 8 = N at *
  go_wp2
  go_ret
  exact ⟨rfl, HB.out⟩
end Go.Proofs.Ytoojhmakfjojjaa
