/-
  The walk of the law FnJoinQuoted. For every input.
-/
import Derived.Test.YtlmmhhbdibcijaaJoinLaws
import Derived.Deep.QuietTactic
import Derived.BigQuiet
namespace Go.Proofs.Ytlmmhhbdibcijaa
open Go.RowKit Go.PlainAid

theorem quoted_facts (s : ByteArray) (hsp : (32 : UInt8) ∈ L s) (hb : both (L s) = false) :
    ∃ (t : ByteArray) (c : Int), mkB (quoteL (L s)) = t ∧ t.size = s.size + 2 ∧ bt t 0 = c ∧ bt t (s.size + 1) = c ∧ t.extract 1 (s.size + 1) = s ∧ qI c = true ∧ hasI s c = false := by
  have hany : (L s).any isSp = true := List.any_eq_true.2 ⟨32, hsp, rfl⟩
  have key : ∀ q : UInt8, q ∉ L s → isQ q = true → quoteL (L s) = q :: (L s ++ [q]) → ∃ (t : ByteArray) (c : Int), mkB (quoteL (L s)) = t ∧ t.size = s.size + 2 ∧ bt t 0 = c ∧ bt t (s.size + 1) = c ∧ t.extract 1 (s.size + 1) = s ∧ qI c = true ∧ hasI s c = false := by
    intro q hq hi he
    refine ⟨_, (q.toNat : Int), rfl, ?_, ?_, ?_, ?_, ?_, ?_⟩
    · rw [size_mkB, he]; simp [L_len]
    · rw [bt_getD, L_mkB, he]; rfl
    · rw [bt_getD, L_mkB, he]; simp [List.getD, L_len]
    · apply L_inj; rw [L_extract, L_mkB, he]; simp [← L_len]
    · rw [qI_isQ]; exact hi
    · cases hh : hasI s (q.toNat : Int) with
      | false => rfl
      | true => exact absurd ((hasI_iff s q).1 hh) hq
  cases h39 : has 39 (L s) with
  | false =>
    refine key 39 (fun h => by rw [has_iff.2 h] at h39; cases h39) rfl ?_
    rw [quoteL, hany, h39]; rfl
  | true =>
    have h34 : has 34 (L s) = false := by rw [both, h39] at hb; simpa using hb
    refine key 34 (fun h => by rw [has_iff.2 h] at h34; cases h34) rfl ?_
    rw [quoteL, hany, h39]; rfl

theorem walkFnJoinQuoted (w : World) (a : ByteArray) (wa : a.size ≤ maxLen) (b : ByteArray) (wb : b.size ≤ maxLen) :
    Calls Try.prog 8 #[.string a, .string b] w fun e w' => e = .returned (.bool true) ∧ Below w.heap.size w w' := by
  unfold maxLen at wa wb
  by_cases ga : 2147483647 < a.size
  · go_enter Try.func8, Try.ntmps8
    go_wp2
    go_ret
    exact ⟨rfl, Below.refl _ _⟩
  by_cases gb : 2147483647 < b.size
  · go_enter Try.func8, Try.ntmps8
    go_wp2
    go_ret
    exact ⟨rfl, Below.refl _ _⟩
  by_cases gt : 1000000 < a.size + b.size
  · go_enter Try.func8, Try.ntmps8
    go_wp2_with (go_at_call 15; refine (tooLong_yes2 _ _ _ (by omega) (by omega) (by omega) (by omega) (by omega)).mono ?_; rintro e w' ⟨rfl, rfl⟩)
    go_ret
    exact ⟨rfl, (Below.refl _ _).alloc (Nat.le_refl _) _⟩
  have HB0 := Lib.hid ((Below.refl w.heap.size w).alloc (Nat.le_refl _) (.cells #[.int .i64 (a.size : Int), .int .i64 (b.size : Int)] 3))
  have h32 : (⟨#[32]⟩ : ByteArray).size = 1 := rfl
  have hS : (a ++ ⟨#[32]⟩ ++ b).size = a.size + 1 + b.size := by rw [ByteArray.size_append, ByteArray.size_append, h32]
  have HSP : Hid ((32 : UInt8) ∈ L (a ++ ⟨#[32]⟩ ++ b)) := by show _ ∈ _; rw [L_append, L_append]; simp [L]
  go_enter Try.func8, Try.ntmps8
  go_wp2_with (go_at_call 15; refine (tooLong_no2 _ _ _ (by omega) (by omega) (by omega)).mono ?_; rintro e w' ⟨rfl, rfl⟩)
  generalize a ++ ⟨#[32]⟩ ++ b = s at *
  have hs : s.size ≤ 2147483647 := by omega
  clear hS
  have HM : Hid (s.size ≤ maxLen) := by show _ ≤ _; unfold maxLen; omega
  cases hbo : both (L s) with
  | true =>
    have HBO := Lib.hid hbo
    clear hbo
    refine (implJoin1_no _ _ _ s (by simp) hs HBO.out).mono ?_
    rintro e w1 ⟨rfl, hb1⟩
    have HB1 := Lib.hid (HB0.out.trans (hb1.mono (by simp)))
    clear hb1
    go_wp2_with fail
    refine (both_any s _ HM.out).mono ?_
    rw [HBO.out]
    rintro e w2 ⟨rfl, rfl⟩
    go_wp2
    go_ret
    exact ⟨rfl, HB1.out⟩
  | false =>
    obtain ⟨t, c, hq, ht, hc0, hc1, hx, hqc, hhc⟩ := quoted_facts s HSP.out hbo
    have HBO := Lib.hid hbo
    clear hbo
    refine (implJoin1_yes _ _ _ s (by simp) hs HBO.out).mono ?_
    rw [hq]
    clear hq
    rintro e w1 ⟨rfl, hb1⟩
    have HB1 := Lib.hid (HB0.out.trans (hb1.mono (by simp)))
    clear hb1
    have HT := Lib.hid ht
    have HX := Lib.hid hx
    have HC1 := Lib.hid hc1
    have HC0 := Lib.hid hc0
    have HQC := Lib.hid hqc
    have HHC := Lib.hid hhc
    clear ht hx hc0 hc1 hqc hhc
    go_wp2_with fail
    refine (both_any s _ HM.out).mono ?_
    rw [HBO.out]
    rintro e w2 ⟨rfl, rfl⟩
    go_wp2_with fail
    have ht := HT.out
    have hbt := get_bt t
    have hc0 := HC0.out
    have hc1 := HC1.out
    have hx := HX.out
    have hi0 : (0 : Int) < ↑s.size + 2 := by omega
    have hw2 : IntKind.i64.wrap ((s.size : Int) + 2) = (s.size : Int) + 2 := IntWalk.i64_in _ (by omega)
    have hw1 : IntKind.i64.wrap ((s.size : Int) + 2 - 1) = (s.size : Int) + 1 := by rw [IntWalk.i64_in _ (by omega)]; omega
    have hi1 : (s.size : Int) + 1 < (s.size : Int) + 2 := by omega
    have hi2 : (0 : Int) ≤ (s.size : Int) + 1 := by omega
    have hi3 : ((s.size : Int) + 1).toNat = s.size + 1 := by omega
    have hi4 : (1 : Int) ≤ (s.size : Int) + 1 := by omega
    have hi5 : (s.size : Int) + 1 ≤ (s.size : Int) + 2 := by omega
    go_quiet (first | (go_at_call 25; exact Calls.quiet_of_same ((isQuote_yes _ _ HQC.out).mono fun _ _ ⟨h1, h2⟩ => ⟨h1, h2.symm⟩)) | (go_at_call 18; exact Calls.quiet_of_same ((has_any _ _ _ HM.out).mono fun _ _ ⟨h1, h2⟩ => ⟨h1, h2.symm⟩)))
    have hhc := HHC.out
    go_wp2
    go_ret
    exact ⟨by first | rfl | (rw [hhc]; simp) | simp [hhc], below_drewN HB1.out _⟩
end Go.Proofs.Ytlmmhhbdibcijaa
