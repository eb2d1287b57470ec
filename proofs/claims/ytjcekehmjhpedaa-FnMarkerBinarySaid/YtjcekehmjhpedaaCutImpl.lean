/-
  The contracts of impl.CutMarker and spec.Smooth. For every line of at most 4294967296 bytes.
-/
import Derived.Test.YtjcekehmjhpedaaCutPlain
import Derived.Test.YtjcekehmjhpedaaHas
import Derived.Test.YtjcekehmjhpedaaLong
namespace Go.Proofs.Ytjcekehmjhpedaa
open Go.RowKit Go.PlainAid

theorem Cut.shape {t : ByteArray} {e : Ending} (h : Cut t e) : ∃ s v b, e = .returned (.tuple #[.string s, .int .u64 v, .bool b]) := by
  cases h with
  | none => exact ⟨_, _, _, rfl⟩
  | open_ => exact ⟨_, _, _, rfl⟩
  | long => exact ⟨_, _, _, rfl⟩
  | hex => exact ⟨_, _, _, rfl⟩
  | size => exact ⟨_, _, _, rfl⟩
  | bad => exact ⟨_, _, _, rfl⟩
  | bin => exact ⟨_, _, _, rfl⟩
theorem implCut_any (t : ByteArray) (ht : t.size ≤ 4294967296) (w : World) :
    Calls Try.prog 16 #[.string t] w fun e w' => Cut t e ∧ Below w.heap.size w w' := by
  go_enter Try.func16, Try.ntmps16
  go_wp2_with fail
  refine (cut_any t ht _).mono ?_
  rintro e w1 ⟨hc, hb⟩
  obtain ⟨s, v, b, rfl⟩ := hc.shape
  have HC := Lib.hid hc
  have HB := Lib.hid hb
  clear hc hb
  go_wp2
  go_ret3
  exact ⟨HC.out, HB.out⟩
/-- the answer at a line with the marker of n -/
theorem implCut_marker (B E : ByteArray) (n : Nat) (hn : n < 18446744073709551616) (hB : hasI B 91 = false) (hs : B.size + E.size ≤ 4294967 ) (w : World) :
    Calls Try.prog 16 #[.string (B ++ marker n ++ E)] w fun e w' => e = cutYes (cutS (B ++ marker n ++ E) B.size (B.size + 33)) n ∧ Below w.heap.size w w' :=
  (implCut_any _ (by rw [ByteArray.size_append, ByteArray.size_append, size_marker]; omega) w).mono fun _ _ ⟨h1, h2⟩ => ⟨cut_marker B E n hn (fun k hk e => by
    have : hasI B 91 = true := by unfold hasI; rw [List.any_eq_true]; exact ⟨k, List.mem_range.2 hk, by simpa using e⟩
    rw [hB] at this; cases this) h1, h2⟩
theorem cut_five (w : World) : Calls Try.prog 16 #[.string (marker 5)] w fun e w' => (∃ s, e = .returned (.tuple #[.string s, .int .u64 5, .bool true])) ∧ Below w.heap.size w w' := by
  have h := implCut_marker ByteArray.empty ByteArray.empty 5 (by omega) rfl (by decide) w
  rw [ByteArray.empty_append, ByteArray.append_empty] at h
  exact h.mono fun _ _ ⟨h1, h2⟩ => ⟨⟨_, h1⟩, h2⟩

def smoothB (s : ByteArray) : Bool := !hasI s 91 && (s.toList.isEmpty || (bt s 0 != 32 && bt s (s.size - 1) != 32))
theorem smooth_any (s : ByteArray) (w : World) (hs : s.size ≤ 4294967296) : Calls Try.prog 18 #[.string s] w fun e w' => e = .returned (.bool (smoothB s)) ∧ w = w' := by
  have HM : Hid (s.size ≤ maxLen) := by show _ ≤ _; unfold maxLen; omega
  have hb := get_bt s
  cases h91 : hasI s 91 with
  | true =>
    have HS : Hid (smoothB s = false) := by show _ = _; unfold smoothB; rw [h91]; rfl
    have H91 := Lib.hid h91
    clear h91
    go_enter Try.func18, Try.ntmps18
    go_wp2_with (go_at_call 20; refine (has_any _ _ _ HM.out).mono ?_; rw [H91.out]; rintro e w' ⟨rfl, rfl⟩)
    go_ret
    exact ⟨by rw [HS.out]; rfl, rfl⟩
  | false =>
    have H91 := Lib.hid h91
    by_cases h0 : 0 < s.size
    · have he := isEmpty_no s h0
      by_cases h32 : (bt s 0 != 32) = true
      · have HS : Hid (smoothB s = (bt s (s.size - 1) != 32)) := by show _ = _; unfold smoothB; rw [h91, he, h32]; rfl
        clear h91
        go_enter Try.func18, Try.ntmps18
        go_wp2_with (go_at_call 20; refine (has_any _ _ _ HM.out).mono ?_; rw [H91.out]; rintro e w' ⟨rfl, rfl⟩)
        go_ret
        exact ⟨by rw [HS.out]; rfl, rfl⟩
      · have h32' : (bt s 0 != 32) = false := by simpa using h32
        have HS : Hid (smoothB s = false) := by show _ = _; unfold smoothB; rw [h91, he, h32']; rfl
        clear h91 h32
        go_enter Try.func18, Try.ntmps18
        go_wp2_with (go_at_call 20; refine (has_any _ _ _ HM.out).mono ?_; rw [H91.out]; rintro e w' ⟨rfl, rfl⟩)
        go_ret
        exact ⟨by rw [HS.out]; rfl, rfl⟩
    · have he := isEmpty_yes s (by omega)
      have HS : Hid (smoothB s = true) := by show _ = _; unfold smoothB; rw [h91, he]; rfl
      clear h91
      go_enter Try.func18, Try.ntmps18
      go_wp2_with (go_at_call 20; refine (has_any _ _ _ HM.out).mono ?_; rw [H91.out]; rintro e w' ⟨rfl, rfl⟩)
      go_ret
      exact ⟨by rw [HS.out]; rfl, rfl⟩
theorem smooth_facts {s : ByteArray} (h : smoothB s = true) : hasI s 91 = false ∧ (0 < s.size → bt s 0 ≠ 32) ∧ (0 < s.size → bt s (s.size - 1) ≠ 32) := by
  unfold smoothB at h
  simp only [Bool.and_eq_true, Bool.not_eq_true', Bool.or_eq_true] at h
  refine ⟨h.1, fun h0 => ?_, fun h0 => ?_⟩
  · rcases h.2 with h2 | h2
    · rw [isEmpty_no s h0] at h2; cases h2
    · simpa using h2.1
  · rcases h.2 with h2 | h2
    · rw [isEmpty_no s h0] at h2; cases h2
    · simpa using h2.2
theorem cutS_marker (B E : ByteArray) (n : Nat) (h1 : 0 < B.size → bt B (B.size - 1) ≠ 32) (h2 : 0 < E.size → bt E 0 ≠ 32) : cutS (B ++ marker n ++ E) B.size (B.size + 33) = B ++ E := by
  rw [line_marker, ← cutS_plain B (dOf n) E h1 h2, size_dOf]
theorem cutS_marker_blank (B E : ByteArray) (n : Nat) : cutS (B ++ ⟨#[32]⟩ ++ marker n ++ E) (B.size + 1) (B.size + 1 + 33) = B ++ E := by
  rw [line_marker, ← cutS_blank B (dOf n) E, size_dOf]
end Go.Proofs.Ytjcekehmjhpedaa
