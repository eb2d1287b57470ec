/-
  The contracts of impl.CutMarker and spec.Smooth. For every line of at most 4294967296 bytes.
-/
import Derived.Test.YtnjdckhaecdldaaCutPlainP
import Derived.Test.YtnjdckhaecdldaaHas
import Derived.Test.YtnjdckhaecdldaaLong
namespace Go.Proofs.Ytnjdckhaecdldaa
open Go.RowKit Go.PlainAid

theorem Cut.shape {t : ByteArray} {e : Ending} (h : Cut t e) : ∃ s v b, e = .returned (.tuple #[.string s, .int .u64 v, .bool b]) := by
  cases h with
  | none => exact ⟨_, _, _, rfl⟩
  | open_ => exact ⟨_, _, _, rfl⟩
  | long => exact ⟨_, _, _, rfl⟩
  | hex => exact ⟨_, _, _, rfl⟩
  | size => exact ⟨_, _, _, rfl⟩
  | bad => exact ⟨_, _, _, rfl⟩
  | bin => exact ⟨_, _, _, rfl⟩
theorem implCut_any (t : ByteArray) (ht : t.size ≤ 4294967296) (w : World) :
    Calls Try.prog 15 #[.string t] w fun e w' => Cut t e ∧ Below w.heap.size w w' := by
  go_enter Try.func15, Try.ntmps15
  go_wp2_with fail
  refine (cut_any t ht _).mono ?_
  rintro e w1 ⟨hc, hb⟩
  obtain ⟨s, v, b, rfl⟩ := hc.shape
  have HC := Lib.hid hc
  have HB := Lib.hid hb
  clear hc hb
  go_wp2
  go_ret3
  exact ⟨HC.out, HB.out⟩
/-- the answer at a line with the marker of n -/
theorem implCut_marker (B E : ByteArray) (n : Nat) (hn : n < 18446744073709551616) (hB : hasI B 91 = false) (hs : B.size + E.size ≤ 4294967 ) (w : World) :
    Calls Try.prog 15 #[.string (B ++ marker n ++ E)] w fun e w' => e = cutYes (cutS (B ++ marker n ++ E) B.size (B.size + 33)) n ∧ Below w.heap.size w w' :=
  (implCut_any _ (by rw [ByteArray.size_append, ByteArray.size_append, size_marker]; omega) w).mono fun _ _ ⟨h1, h2⟩ => ⟨cut_marker B E n hn (fun k hk e => by
    have : hasI B 91 = true := by unfold hasI; rw [List.any_eq_true]; exact ⟨k, List.mem_range.2 hk, by simpa using e⟩
    rw [hB] at this; cases this) h1, h2⟩
theorem cut_five (w : World) : Calls Try.prog 15 #[.string (marker 5)] w fun e w' => (∃ s, e = .returned (.tuple #[.string s, .int .u64 5, .bool true])) ∧ Below w.heap.size w w' := by
  have h := implCut_marker ByteArray.empty ByteArray.empty 5 (by omega) rfl (by decide) w
  rw [ByteArray.empty_append, ByteArray.append_empty] at h
  exact h.mono fun _ _ ⟨h1, h2⟩ => ⟨⟨_, h1⟩, h2⟩

end Go.Proofs.Ytnjdckhaecdldaa
