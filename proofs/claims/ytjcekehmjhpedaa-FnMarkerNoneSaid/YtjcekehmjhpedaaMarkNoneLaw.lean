/-
  The contract of spec.Stands at the beginning of a marker, and the walk of the law FnMarkerNone. For every input.
-/
import Derived.Test.YtjcekehmjhpedaaCutImpl
namespace Go.Proofs.Ytjcekehmjhpedaa
open Go.RowKit Go.PlainAid

def StandsPost (t : ByteArray) (w : World) (e : Ending) (w' : World) : Prop := ∃ b, e = .returned (.bool b) ∧ w = w' ∧ (b = false → ∀ q, q + 14 ≤ t.size → ¬ Pfx t q)
theorem stands_any (t : ByteArray) (ht : t.size ≤ 4294967296) (w : World) : Calls Try.prog 21 #[.string t, .string ⟨#[91, 98, 105, 115, 101, 99, 116, 45, 109, 97, 116, 99, 104, 32]⟩] w (StandsPost t w) := by
  go_enter Try.func21, Try.ntmps21
  go_wp2
  go_loop [5] (fun iv => ∃ i : Nat, iv = .int .i64 i ∧ i ≤ t.size + 1 ∧ Hid (∀ q, q < i → ¬ Pfx t q)) (fun iv => t.size + 1 - (intOf iv).toNat)
  case atStart => exact ⟨0, rfl, Nat.zero_le _, fun q h => absurd h (by omega)⟩
  case round =>
    obtain ⟨i, rfl, hi, HQ⟩ := hrel
    by_cases hlt : i + 14 ≤ t.size
    · cases hpf : ((t.extract i (i + 14)).toList == P14.toList) with
      | false =>
        have HP : Hid (¬ Pfx t i) := fun h => by
          have := beq_str.2 h; rw [hpf] at this; cases this
        rw [P14_toList] at hpf
        go_wp2
        go_round
        case rel => exact ⟨i + 1, by go_num, by omega, (fun q hq => by
          rcases Nat.lt_succ_iff_lt_or_eq.1 hq with h | h
          · exact HQ.out q h
          · subst h; exact HP.out)⟩
        case measure => simp [intOf]; omega
      | true =>
        rw [P14_toList] at hpf
        go_wp2
        go_ret
        exact ⟨true, rfl, rfl, fun h => by cases h⟩
    · go_wp2
      go_ret
      exact ⟨false, rfl, rfl, fun _ q hq => HQ.out q (by omega)⟩
theorem cut_none {t : ByteArray} {e : Ending} (h : Cut t e) (hp : ∀ q, q + 14 ≤ t.size → ¬ Pfx t q) : e = cutNo t := by
  have no : ∀ p, FirstPfx t p → False := fun p h => hp p (by have := h.1; omega) h.2.1
  cases h with
  | none h => rfl
  | open_ p h hj => exact (no p h).elim
  | long p j h => exact (no p h).elim
  | hex p j h => exact (no p h).elim
  | size p j h => exact (no p h).elim
  | bad p j k h => exact (no p h).elim
  | bin p j h => exact (no p h).elim

theorem walkFnMarkerNone (w : World) (t : ByteArray) (wt : t.size ≤ maxLen) :
    Calls Try.prog 10 #[.string t] w fun e w' => e = .returned (.bool true) ∧ Below w.heap.size w w' := by
  unfold maxLen at wt
  by_cases gt : 2147483647 < t.size
  · go_enter Try.func10, Try.ntmps10
    go_wp2
    go_ret
    exact ⟨rfl, Below.refl _ _⟩
  by_cases gt : 1000000 < t.size
  · go_enter Try.func10, Try.ntmps10
    go_wp2_with (go_at_call 13; refine (tooLong_yes1 _ _ (by omega) (by omega) (by omega)).mono ?_; rintro e w' ⟨rfl, rfl⟩)
    go_ret
    exact ⟨rfl, (Below.refl _ _).alloc (Nat.le_refl _) _⟩
  have HB0 := Lib.hid ((Below.refl w.heap.size w).alloc (Nat.le_refl _) (.cells #[.int .i64 (t.size : Int)] 3))
  go_enter Try.func10, Try.ntmps10
  go_wp2_with (go_at_call 13; refine (tooLong_no1 _ _ (by omega) (by omega)).mono ?_; rintro e w' ⟨rfl, rfl⟩)
  refine (implCut_any t (by omega) _).mono ?_
  rintro e w1 ⟨hc1, hb1⟩
  have HC1 := Lib.hid hc1
  obtain ⟨s1, v1, b1, rfl⟩ := hc1.shape
  have HB1 := Lib.hid (HB0.out.trans (hb1.mono (by simp)))
  clear hc1 hb1
  go_wp2_with fail
  refine (implMarker_any 5 (by omega) _).mono ?_
  rintro e w8 ⟨rfl, hb8⟩
  have HB8 := Lib.hid (HB1.out.trans (hb8.mono HB1.out.size))
  clear hb8
  go_wp2_with fail
  refine (cut_five _).mono ?_
  rintro e w9 ⟨⟨s9, rfl⟩, hb9⟩
  have HB9 := Lib.hid (HB8.out.trans (hb9.mono HB8.out.size))
  clear hb9
  go_wp2_with fail
  refine (stands_any t (by omega) _).mono ?_
  rintro e w10 ⟨b, rfl, rfl, hp⟩
  cases b with
  | true =>
    clear hp
    go_wp2
    go_ret
    exact ⟨rfl, HB9.out⟩
  | false =>
    have he := cut_none HC1.out (hp rfl)
    unfold cutNo at he
    simp only [Ending.returned.injEq, Value.tuple.injEq] at he
    have h3 : s1 = t ∧ v1 = 0 ∧ b1 = false := by simpa using he
    obtain ⟨rfl, rfl, rfl⟩ := h3
    clear hp he
    go_wp2
    go_ret
    exact ⟨rfl, HB9.out⟩
end Go.Proofs.Ytjcekehmjhpedaa
