/-
  The walk of the law FnJoinPlain. For every input.
-/
import Derived.Test.YtlmmhhbdibcijaaJoinLaws
namespace Go.Proofs.Ytlmmhhbdibcijaa
open Go.RowKit Go.PlainAid

def PlainPost (s : ByteArray) (w : World) (e : Ending) (w' : World) : Prop := ∃ b, e = .returned (.bool b) ∧ w = w' ∧ (b = true → ∀ j, j < s.size → plainI (bt s j) = true)
theorem plain_any (s : ByteArray) (w : World) (hs : s.size ≤ maxLen) : Calls Try.prog 23 #[.string s] w (PlainPost s w) := by
  unfold maxLen at hs
  have hb := get_bt s
  go_enter Try.func23, Try.ntmps23
  go_wp2
  go_loop [6] (fun iv => ∃ k : Nat, iv = .int .i64 k ∧ k ≤ s.size ∧ Hid (∀ j, j < k → plainI (bt s j) = true)) (fun iv => s.size - (intOf iv).toNat)
  case atStart => exact ⟨0, rfl, Nat.zero_le _, fun j h => absurd h (by omega)⟩
  case round =>
    obtain ⟨k, rfl, hk, HP⟩ := hrel
    by_cases hlt : k < s.size
    · by_cases hq : qI (bt s k) = true
      · go_wp2_with (go_at_call 25; refine (isQuote_yes _ _ (by assumption)).mono ?_; rintro e w' ⟨rfl, rfl⟩)
        go_ret
        exact ⟨false, rfl, rfl, fun h => by cases h⟩
      · have hq' : qI (bt s k) = false := by simpa using hq
        clear hq
        by_cases h32 : (bt s k == 32) = true
        · go_wp2_with (go_at_call 25; refine (isQuote_no _ _ (by assumption)).mono ?_; rintro e w' ⟨rfl, rfl⟩)
          go_ret
          exact ⟨false, rfl, rfl, fun h => by cases h⟩
        · have h32' : (bt s k == 32) = false := by simpa using h32
          clear h32
          by_cases ho : otherI (bt s k) = true
          · go_wp2_with (first | (go_at_call 25; refine (isQuote_no _ _ (by assumption)).mono ?_; rintro e w' ⟨rfl, rfl⟩) | (go_at_call 31; refine (isOther_yes _ _ (by assumption)).mono ?_; rintro e w' ⟨rfl, rfl⟩))
            go_ret
            exact ⟨false, rfl, rfl, fun h => by cases h⟩
          · have ho' : otherI (bt s k) = false := by simpa using ho
            clear ho
            have HX : Hid (plainI (bt s k) = true) := by
              show _ = _; unfold plainI; unfold otherI at ho'; rw [hq', h32', ho']; rfl
            go_wp2_with (first | (go_at_call 25; refine (isQuote_no _ _ (by assumption)).mono ?_; rintro e w' ⟨rfl, rfl⟩) | (go_at_call 31; refine (isOther_no _ _ (by assumption)).mono ?_; rintro e w' ⟨rfl, rfl⟩))
            go_round
            case rel => exact ⟨k + 1, by go_num, by omega, (fun j hj => by
              rcases Nat.lt_succ_iff_lt_or_eq.1 hj with h | h
              · exact HP.out j h
              · subst h; exact HX.out)⟩
            case measure => simp [intOf]; omega
    · go_wp2
      go_ret
      exact ⟨true, rfl, rfl, fun _ j hj => HP.out j (by omega)⟩
theorem plain_quote {s : ByteArray} (h : ∀ j, j < s.size → plainI (bt s j) = true) : quoteL (L s) = L s ∧ both (L s) = false := by
  have hb : ∀ b ∈ L s, isSp b = false ∧ isQ b = false := fun b hb => by
    obtain ⟨k, hk, rfl⟩ := List.getElem_of_mem hb
    rw [L_len] at hk
    have := plain_sp (h k hk)
    rw [bt_L s k hk, spI_isSp, qI_isQ] at this
    exact this
  have h39 : has 39 (L s) = false := by
    cases hx : has 39 (L s) with
    | false => rfl
    | true => have := (hb 39 (has_iff.1 hx)).2; simp [isQ] at this
  have h34 : has 34 (L s) = false := by
    cases hx : has 34 (L s) with
    | false => rfl
    | true => have := (hb 34 (has_iff.1 hx)).2; simp [isQ] at this
  have hsp : (L s).any isSp = false := by
    rw [List.any_eq_false]; intro b hb'; simp [(hb b hb').1]
  exact ⟨by rw [quoteL_eq, hsp, h39, h34]; rfl, by rw [both_eq, h39]; rfl⟩

theorem walkFnJoinPlain (w : World) (s : ByteArray) (ws : s.size ≤ maxLen) :
    Calls Try.prog 7 #[.string s] w fun e w' => e = .returned (.bool true) ∧ Below w.heap.size w w' := by
  have wm := ws
  unfold maxLen at ws
  by_cases h1 : 2147483647 < s.size
  · go_enter Try.func7, Try.ntmps7
    go_wp2
    go_ret
    exact ⟨rfl, Below.refl _ _⟩
  by_cases h2 : 1000000 < s.size
  · go_enter Try.func7, Try.ntmps7
    go_wp2_with (go_at_call 15; refine (tooLong_yes1 _ _ (by omega) (by omega) (by omega)).mono ?_; rintro e w' ⟨rfl, rfl⟩)
    go_ret
    exact ⟨rfl, (Below.refl _ _).alloc (Nat.le_refl _) _⟩
  have hs : s.size ≤ 2147483647 := by omega
  have HB0 := Lib.hid ((Below.refl w.heap.size w).alloc (Nat.le_refl _) (.cells #[.int .i64 (s.size : Int)] 3))
  by_cases hpl : ∀ j, j < s.size → plainI (bt s j) = true
  · obtain ⟨hq, hbo⟩ := plain_quote hpl
    have HQ : Hid (mkB (quoteL (L s)) = s) := by show mkB (quoteL (L s)) = s; rw [hq, mkB_L]
    have HBO := Lib.hid hbo
    clear hpl hq hbo
    go_enter Try.func7, Try.ntmps7
    go_wp2_with (go_at_call 15; refine (tooLong_no1 _ _ (by omega) (by omega)).mono ?_; rintro e w' ⟨rfl, rfl⟩)
    refine (implJoin1_yes _ _ _ s (by simp) hs HBO.out).mono ?_
    rw [HQ.out]
    rintro e w1 ⟨rfl, hb1⟩
    have HB1 := Lib.hid (HB0.out.trans (hb1.mono (by simp)))
    clear hb1
    go_wp2_with fail
    refine (implJoin_a _ _).mono ?_
    rintro e w3 ⟨rfl, hb3⟩
    have HBC := Lib.hid (HB1.out.trans (hb3.mono HB1.out.size))
    clear hb3
    go_wp2_with fail
    refine (plain_any s _ wm).mono ?_
    rintro e w4 ⟨b, rfl, rfl, _⟩
    cases b with
    | true =>
      go_wp2
      go_ret
      exact ⟨rfl, HBC.out⟩
    | false =>
      go_wp2
      go_ret
      exact ⟨rfl, HBC.out⟩
  · have HPL := Lib.hid hpl
    clear hpl
    go_enter Try.func7, Try.ntmps7
    go_wp2_with (go_at_call 15; refine (tooLong_no1 _ _ (by omega) (by omega)).mono ?_; rintro e w' ⟨rfl, rfl⟩)
    refine (implJoin1_free _ _ _ s (by simp) hs).mono ?_
    rintro e w1 ⟨s1, ok, rfl, _, hb1⟩
    have HB1 := Lib.hid (HB0.out.trans (hb1.mono (by simp)))
    clear hb1
    go_wp2_with fail
    refine (implJoin_a _ _).mono ?_
    rintro e w3 ⟨rfl, hb3⟩
    have HBC := Lib.hid (HB1.out.trans (hb3.mono HB1.out.size))
    clear hb3
    go_wp2_with fail
    refine (plain_any s _ wm).mono ?_
    rintro e w4 ⟨b, rfl, rfl, hp⟩
    cases b with
    | true => exact absurd (hp rfl) HPL.out
    | false =>
      clear hp
      go_wp2
      go_ret
      exact ⟨rfl, HBC.out⟩
end Go.Proofs.Ytlmmhhbdibcijaa
