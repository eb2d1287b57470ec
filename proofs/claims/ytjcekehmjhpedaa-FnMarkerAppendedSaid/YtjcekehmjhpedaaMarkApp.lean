/-
  The contract of impl.AppendMarker and the walk of the law FnMarkerAppended. For every input.
-/
import Derived.Test.YtjcekehmjhpedaaMarkRead
import Derived.Test.YtjcekehmjhpedaaLong
import Derived.Lib.ConvBytes
namespace Go.Proofs.Ytjcekehmjhpedaa
open Go.RowKit Go.PlainAid

theorem implAppendMarker_any (s : ByteArray) (hs : s.size ≤ 4294967296) (n : Nat) (hn : n < 18446744073709551616) (w : World) :
    Calls Try.prog 14 #[.string s, .int .u64 (n : Int)] w fun e w' => e = .returned (.string (s ++ marker n)) ∧ Below w.heap.size w w' := by
  have HN := Lib.hid hn
  clear hn
  have hcv := fun W => Lib.run_convert_string_bytes (P := Try.prog) W 9 44 5 s Try.underlying9 Try.underlying44 Try.underlying5
  go_enter Try.func14, Try.ntmps14
  go_wp2_with fail
  refine (appendMarker_any n HN.out s w.heap.size _ _ (row_of_bytes w _ s w.heap.size (Nat.le_refl _) (by unfold maxLen; omega)) (by rw [Lib.bytesWorld_size]; omega) hs).mono ?_
  rintro e w1 ⟨v', rfl, hr, hg, _⟩
  have hcv2 := run_string_row w1 Try.underlying44 Try.underlying5 hr 9 Try.underlying9
  have HB := Lib.hid (show Below w.heap.size w w1 from (below_bytesWorld (Below.refl _ _) (Nat.le_refl _) _ _).grown hg (by rw [Lib.bytesWorld_size]; omega) (fun k hk => by simp [Value.ownBlock] at hk; omega))
  clear hr hg
  go_wp2
  go_ret
  exact ⟨rfl, HB.out⟩
theorem walkFnMarkerAppended (w : World) (s : ByteArray) (ws : s.size ≤ maxLen) (a : Int) (wa : (Lit.int .u64 a).wf = true) :
    Calls Try.prog 4 #[.string s, .int .u64 a] w fun e w' => e = .returned (.bool true) ∧ Below w.heap.size w w' := by
  obtain ⟨h0, h1⟩ := bounds_u64 wa
  obtain ⟨n, rfl⟩ := Int.eq_ofNat_of_zero_le h0
  have hn : n < 18446744073709551616 := by omega
  have HN := Lib.hid hn
  clear hn h1 wa
  unfold maxLen at ws
  by_cases h1 : 2147483647 < s.size
  · go_enter Try.func4, Try.ntmps4
    go_wp2
    go_ret
    exact ⟨rfl, Below.refl _ _⟩
  by_cases h2 : 1000000 < s.size
  · go_enter Try.func4, Try.ntmps4
    go_wp2_with (go_at_call 13; refine (tooLong_yes1 _ _ (by omega) (by omega) (by omega)).mono ?_; rintro e w' ⟨rfl, rfl⟩)
    go_ret
    exact ⟨rfl, (Below.refl _ _).alloc (Nat.le_refl _) _⟩
  have HB0 := Lib.hid ((Below.refl w.heap.size w).alloc (Nat.le_refl _) (.cells #[.int .i64 (s.size : Int)] 3))
  have hms := size_marker n
  have hme := isEmpty_no (marker n) (by rw [hms]; omega)
  go_enter Try.func4, Try.ntmps4
  go_wp2_with (go_at_call 13; refine (tooLong_no1 _ _ (by omega) (by omega)).mono ?_; rintro e w' ⟨rfl, rfl⟩)
  refine (implAppendMarker_any s (by omega) n HN.out _).mono ?_
  rintro e w1 ⟨rfl, hb1⟩
  have HB1 := Lib.hid (HB0.out.trans (hb1.mono (by simp)))
  clear hb1
  go_wp2_with fail
  refine (implMarker_any n HN.out _).mono ?_
  rintro e w2 ⟨rfl, hb2⟩
  have HB2 := Lib.hid (HB1.out.trans (hb2.mono HB1.out.size))
  clear hb2
  go_wp2_with fail
  refine (implMarker_any n HN.out _).mono ?_
  rintro e w3 ⟨rfl, hb3⟩
  have HB3 := Lib.hid (HB2.out.trans (hb3.mono HB2.out.size))
  clear hb3
  go_wp2
  go_ret
  exact ⟨rfl, HB3.out⟩
end Go.Proofs.Ytjcekehmjhpedaa
