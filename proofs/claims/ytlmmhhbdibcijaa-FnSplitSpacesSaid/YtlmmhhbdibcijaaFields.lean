/-
  The contracts of spec.IsQuote, spec.isOther, spec.FieldsOf and spec.Told. For every text of at most 2147483647 bytes.
-/
import Derived.Test.YtlmmhhbdibcijaaFieldsPlain
import Derived.Test.YtlmmhhbdibcijaaSplitImpl
namespace Go.Proofs.Ytlmmhhbdibcijaa
open Go.RowKit Go.PlainAid

theorem isQuote_any (c : Int) (w : World) : Calls Try.prog 25 #[.int .u8 c] w fun e w' => e = .returned (.bool (qI c)) ∧ w = w' := by
  by_cases h1 : (c == 39) = true
  · have e : qI c = true := by simp [qI, h1]
    rw [e]; clear e
    go_enter Try.func25, Try.ntmps25
    go_wp2
    go_ret
    exact ⟨rfl, rfl⟩
  have h1 : (c == 39) = false := by simpa using h1
  have e : qI c = (c == 34) := by simp [qI, h1]
  rw [e]; clear e
  go_enter Try.func25, Try.ntmps25
  go_wp2
  go_ret
  exact ⟨rfl, rfl⟩
theorem isQuote_yes (c : Int) (w : World) (h : qI c = true) : Calls Try.prog 25 #[.int .u8 c] w fun e w' => e = .returned (.bool true) ∧ w = w' := by have := isQuote_any c w; rw [h] at this; exact this
theorem isQuote_no (c : Int) (w : World) (h : qI c = false) : Calls Try.prog 25 #[.int .u8 c] w fun e w' => e = .returned (.bool false) ∧ w = w' := by have := isQuote_any c w; rw [h] at this; exact this
def otherI (c : Int) : Bool := decide (c < 32) || decide (127 ≤ c)
theorem isOther_any (c : Int) (w : World) : Calls Try.prog 31 #[.int .u8 c] w fun e w' => e = .returned (.bool (otherI c)) ∧ w = w' := by
  by_cases h1 : c < 32
  · have e : otherI c = true := by simp [otherI, h1]
    rw [e]; clear e
    go_enter Try.func31, Try.ntmps31
    go_wp2
    go_ret
    exact ⟨rfl, rfl⟩
  by_cases h2 : 127 ≤ c
  · have e : otherI c = true := by simp [otherI, h2]
    rw [e]; clear e
    go_enter Try.func31, Try.ntmps31
    go_wp2
    go_ret
    exact ⟨rfl, rfl⟩
  have e : otherI c = false := by simp [otherI]; omega
  rw [e]; clear e
  go_enter Try.func31, Try.ntmps31
  go_wp2
  go_ret
  exact ⟨rfl, rfl⟩
theorem isOther_yes (c : Int) (w : World) (h : otherI c = true) : Calls Try.prog 31 #[.int .u8 c] w fun e w' => e = .returned (.bool true) ∧ w = w' := by have := isOther_any c w; rw [h] at this; exact this
theorem isOther_no (c : Int) (w : World) (h : otherI c = false) : Calls Try.prog 31 #[.int .u8 c] w fun e w' => e = .returned (.bool false) ∧ w = w' := by have := isOther_any c w; rw [h] at this; exact this

def FieldsPost (s : ByteArray) (w : World) (e : Ending) (w' : World) : Prop :=
  Below w.heap.size w w' ∧ ∃ (v : Value) (told : Int), e = .returned (.tuple #[v, .int .i64 told]) ∧
    ((told = 0 ∧ ∃ fs, splitL (L s) = some fs ∧ Row w' w.heap.size 1 v fs.length (fs.map S)) ∨ (told = 1 ∧ splitL (L s) = none) ∨ told = 2)
def FieldsRel (s : ByteArray) (w : World) (fv av : Value) (wr : World) : Prop :=
  ∃ (a : Nat) (acc : List Bs), av = .int .i64 a ∧ a ≤ s.size ∧ acc.length ≤ a ∧ Rest (L s) acc (Dr s a) ∧ Row wr w.heap.size 1 fv acc.length (acc.map S) ∧ Below w.heap.size w wr
theorem row_empty (w : World) (B : Nat) (hB : B ≤ w.heap.size) (e : TypeId) : Row (w.alloc (.cells #[] e)) B 1 (.slice (some ⟨w.heap.size, 0, none⟩) 0 0) 0 [] :=
  ⟨by simp, fun g hg => (by simp [Value.ownBlock] at hg; subst hg; exact ⟨hB, by simp⟩), _, 0, rfl, Nat.le_refl _, by simp [maxLen], fun h => absurd h (by omega)⟩

set_option maxRecDepth 100000 in
set_option maxHeartbeats 1000000 in
theorem fieldsOf_any (s : ByteArray) (w : World) (hs : s.size ≤ 2147483647) :
    Calls Try.prog 21 #[.string s] w (FieldsPost s w) := by
  obtain ⟨i0, hi, hz0, hz1, hz2⟩ := info_parts infoStr
  have hb := get_bt s
  go_enter Try.func21, Try.ntmps21
  go_wp2
  go_loopw [4, 5] (FieldsRel s w) (fun _ av _ => s.size + 1 - (intOf av).toNat)
  case atStart => exact ⟨0, [], rfl, Nat.zero_le _, by simp, Rest.start _, row_empty _ _ (Nat.le_refl _) _, (Below.refl _ _).alloc (Nat.le_refl _) _⟩
  case round =>
    obtain ⟨a0, acc, rfl, ha0, hacc, hR, hrow, hbel⟩ := hrel
    obtain ⟨wo, rfl⟩ : ∃ wo : World, wo = wr := ⟨_, rfl⟩
    have HR := Lib.hid hR
    have HW := Lib.hid hrow
    clear hR hrow
    go_wp2
    go_loop [5] (fun av => ∃ a : Nat, av = .int .i64 a ∧ a0 ≤ a ∧ a ≤ s.size ∧ Hid (splitL (Dr s a) = splitL (Dr s a0))) (fun av => s.size - (intOf av).toNat)
    case atStart => exact ⟨a0, rfl, Nat.le_refl _, ha0, rfl⟩
    case round =>
      obtain ⟨a, rfl, hle, hsz, HE⟩ := hrel
      by_cases hlt : a < s.size
      · by_cases h32 : (bt s a == 32) = true
        · go_wp2
          go_round
          case rel => exact ⟨a + 1, by go_num, by omega, by omega, by show _ = _; rw [fskip s a hlt (by simpa using h32), HE.out]⟩
          case measure => simp [intOf]; omega
        · have h32' : (bt s a == 32) = false := by simpa using h32
          clear h32
          have hne : ((a : Int) == (s.size : Int)) = false := beq_eq_false_iff_ne.2 (by omega)
          by_cases hq : qI (bt s a) = true
          · go_wp2_with (go_at_call 25; refine (isQuote_yes _ _ (by assumption)).mono ?_; rintro e w' ⟨rfl, rfl⟩)
            have HQ := Lib.hid hq
            go_loopw [6] (fun ev wq => ∃ k : Nat, ev = .int .i64 k ∧ a + 1 ≤ k ∧ k ≤ s.size ∧ Hid (∀ j, a + 1 ≤ j → j < k → bt s j ≠ bt s a) ∧ Hid (Row wq w.heap.size 1 u4 acc.length (acc.map S)) ∧ Below w.heap.size w wq) (fun ev _ => s.size - (intOf ev).toNat)
            case atStart => exact ⟨a + 1, by go_num, Nat.le_refl _, by omega, fun j h1 h2 => absurd h1 (by omega), HW, hbel⟩
            case round =>
              obtain ⟨k, rfl, hk1, hk, HA, HW2, hbel2⟩ := hrel
              obtain ⟨wi, rfl⟩ : ∃ wi : World, wi = wr := ⟨_, rfl⟩
              by_cases hlk : k < s.size
              · have hdk : decide (k < s.size) = true := by simpa using hlk
                by_cases hn : (bt s k != bt s a) = true
                · go_wp2
                  go_quiet (fail)
                  go_wp2
                  go_roundw
                  case rel => exact ⟨k + 1, by go_num, by omega, by omega, (fun j h1 h2 => by
                    rcases Nat.lt_succ_iff_lt_or_eq.1 h2 with h | h
                    · exact HA.out j h1 h
                    · subst h; simpa using hn), HW2.out, below_drewN hbel2 _⟩
                  case measure => simp [intOf]; omega
                · have hn' : (bt s k != bt s a) = false := by simpa using hn
                  have hek : bt s k = bt s a := by simpa using hn'
                  have HS := Lib.hid ((HR.out.same HE.out).push (fquote s a k hlt HQ.out hk1 hlk HA.out hek))
                  clear hn hek
                  have hnk : ((k : Int) == (s.size : Int)) = false := beq_eq_false_iff_ne.2 (by omega)
                  have m1 : acc.length + 1 ≤ maxLen := by unfold maxLen; omega
                  have m2 : (acc.length + 1) * 16 ≤ 140737488355328 := by omega
                  have hx1 : a + 1 ≤ k := hk1
                  go_wp2
                  go_quiet (fail)
                  by_cases hend : k + 1 < s.size
                  · by_cases h32e : (bt s (k + 1) != 32) = true
                    · go_wp2_with (at_builtin; refine wpList_append_one (wi.drewN _) rfl (.tmp 51) (.tmp 57) 23 rfl w.heap.size 9 i0 (.string ByteArray.empty) 16 Try.underlying23 hi hz0 hz1 hz2 rfl _ _ _ (HW2.out.drewN _) rfl (.string (s.extract (a + 1) k)) rfl rfl m1 m2 hbel2.size (below_drewN hbel2 _) ?_; intro v1 w1 hrow1 hbel1 hg1 hbk1; have HW1 := Lib.hid hrow1; clear hrow1 hg1 hbk1)
                      go_ret2
                      exact ⟨hbel1, _, 2, rfl, .inr (.inr rfl)⟩
                    · have h32e' : (bt s (k + 1) != 32) = false := by simpa using h32e
                      go_wp2_with (at_builtin; refine wpList_append_one (wi.drewN _) rfl (.tmp 51) (.tmp 57) 23 rfl w.heap.size 9 i0 (.string ByteArray.empty) 16 Try.underlying23 hi hz0 hz1 hz2 rfl _ _ _ (HW2.out.drewN _) rfl (.string (s.extract (a + 1) k)) rfl rfl m1 m2 hbel2.size (below_drewN hbel2 _) ?_; intro v1 w1 hrow1 hbel1 hg1 hbk1; have HW1 := Lib.hid hrow1; clear hrow1 hg1 hbk1)
                      go_roundw
                      case rel => exact ⟨k + 1, _, by go_num, by omega, by simp; omega, HS.out, row_push HW1.out, hbel1⟩
                      case measure => simp [intOf]; omega
                  · go_wp2_with (at_builtin; refine wpList_append_one (wi.drewN _) rfl (.tmp 51) (.tmp 57) 23 rfl w.heap.size 9 i0 (.string ByteArray.empty) 16 Try.underlying23 hi hz0 hz1 hz2 rfl _ _ _ (HW2.out.drewN _) rfl (.string (s.extract (a + 1) k)) rfl rfl m1 m2 hbel2.size (below_drewN hbel2 _) ?_; intro v1 w1 hrow1 hbel1 hg1 hbk1; have HW1 := Lib.hid hrow1; clear hrow1 hg1 hbk1)
                    go_roundw
                    case rel => exact ⟨k + 1, _, by go_num, by omega, by simp; omega, HS.out, row_push HW1.out, hbel1⟩
                    case measure => simp [intOf]; omega
              · obtain rfl : k = s.size := by omega
                have hdk : decide (s.size < s.size) = false := by simp
                have HS := Lib.hid ((HR.out.same HE.out).miss (fmissing s a hlt HQ.out HA.out))
                go_wp2
                go_quiet (fail)
                go_wp2
                go_ret2
                exact ⟨below_drewN hbel2 _, _, 1, rfl, .inr (.inl ⟨rfl, HS.out⟩)⟩
          · have hq' : qI (bt s a) = false := by simpa using hq
            clear hq
            go_wp2_with (go_at_call 25; refine (isQuote_no _ _ (by assumption)).mono ?_; rintro e w' ⟨rfl, rfl⟩)
            go_loop [5] (fun ev => ∃ e : Nat, ev = .int .i64 e ∧ a ≤ e ∧ e ≤ s.size ∧ Hid (∀ j, a ≤ j → j < e → plainI (bt s j) = true)) (fun ev => s.size - (intOf ev).toNat)
            case atStart => exact ⟨a, rfl, Nat.le_refl _, by omega, fun j h1 h2 => absurd h1 (by omega)⟩
            case round =>
              obtain ⟨e, rfl, he1, he, HA⟩ := hrel
              by_cases hlk : e < s.size
              · by_cases hn : (bt s e != 32) = true
                · by_cases hqe : qI (bt s e) = true
                  · go_wp2_with (go_at_call 25; refine (isQuote_yes _ _ (by assumption)).mono ?_; rintro e w' ⟨rfl, rfl⟩)
                    go_ret2
                    exact ⟨hbel, _, 2, rfl, .inr (.inr rfl)⟩
                  · have hqe' : qI (bt s e) = false := by simpa using hqe
                    clear hqe
                    by_cases hoe : otherI (bt s e) = true
                    · go_wp2_with (first | (go_at_call 25; refine (isQuote_no _ _ (by assumption)).mono ?_; rintro e w' ⟨rfl, rfl⟩) | (go_at_call 31; refine (isOther_yes _ _ (by assumption)).mono ?_; rintro e w' ⟨rfl, rfl⟩))
                      go_ret2
                      exact ⟨hbel, _, 2, rfl, .inr (.inr rfl)⟩
                    · have hoe' : otherI (bt s e) = false := by simpa using hoe
                      clear hoe
                      have hpl : plainI (bt s e) = true := by
                        unfold plainI; rw [hqe']; unfold otherI at hoe'; rw [hoe']
                        have : (bt s e == 32) = false := by simpa using hn
                        rw [this]; rfl
                      have HP := Lib.hid hpl
                      clear hpl
                      go_wp2_with (first | (go_at_call 25; refine (isQuote_no _ _ (by assumption)).mono ?_; rintro e w' ⟨rfl, rfl⟩) | (go_at_call 31; refine (isOther_no _ _ (by assumption)).mono ?_; rintro e w' ⟨rfl, rfl⟩))
                      go_round
                      case rel => exact ⟨e + 1, by go_num, by omega, by omega, (fun j h1 h2 => by
                        rcases Nat.lt_succ_iff_lt_or_eq.1 h2 with h | h
                        · exact HA.out j h1 h
                        · subst h; exact HP.out)⟩
                      case measure => simp [intOf]; omega
                · have hn' : (bt s e != 32) = false := by simpa using hn
                  have he32 : bt s e = 32 := by simpa using hn'
                  have hae : a < e := by
                    rcases Nat.lt_or_ge a e with h | h
                    · exact h
                    · exfalso
                      have : e = a := by omega
                      subst this
                      rw [he32] at h32'
                      cases h32'
                  have HS := Lib.hid ((HR.out.same HE.out).push (fbare s a e hae he HA.out (.inr he32)))
                  clear hn he32
                  have m1 : acc.length + 1 ≤ maxLen := by unfold maxLen; omega
                  have m2 : (acc.length + 1) * 16 ≤ 140737488355328 := by omega
                  go_wp2_with (at_builtin; refine wpList_append_one wo rfl (.tmp 94) (.tmp 99) 23 rfl w.heap.size 9 i0 (.string ByteArray.empty) 16 Try.underlying23 hi hz0 hz1 hz2 rfl _ _ _ HW.out rfl (.string (s.extract a e)) rfl rfl m1 m2 hbel.size hbel ?_; intro v1 w1 hrow1 hbel1 hg1 hbk1; have HW1 := Lib.hid hrow1; clear hrow1 hg1 hbk1)
                  go_roundw
                  case rel => exact ⟨e, _, rfl, by omega, by simp; omega, HS.out, row_push HW1.out, hbel1⟩
                  case measure => simp [intOf]; omega
              · obtain rfl : e = s.size := by omega
                have HS := Lib.hid ((HR.out.same HE.out).push (fbare s a s.size hlt (Nat.le_refl _) HA.out (.inl rfl)))
                have m1 : acc.length + 1 ≤ maxLen := by unfold maxLen; omega
                have m2 : (acc.length + 1) * 16 ≤ 140737488355328 := by omega
                go_wp2_with (at_builtin; refine wpList_append_one wo rfl (.tmp 94) (.tmp 99) 23 rfl w.heap.size 9 i0 (.string ByteArray.empty) 16 Try.underlying23 hi hz0 hz1 hz2 rfl _ _ _ HW.out rfl (.string (s.extract a s.size)) rfl rfl m1 m2 hbel.size hbel ?_; intro v1 w1 hrow1 hbel1 hg1 hbk1; have HW1 := Lib.hid hrow1; clear hrow1 hg1 hbk1)
                go_roundw
                case rel => exact ⟨s.size, _, rfl, by omega, by simp; omega, HS.out, row_push HW1.out, hbel1⟩
                case measure => simp [intOf]; omega
      · obtain rfl : a = s.size := by omega
        have HS := Lib.hid ((HR.out.same HE.out).done (Dr_end s))
        go_wp2
        go_ret2
        exact ⟨hbel, _, 0, rfl, .inl ⟨rfl, acc, HS.out, HW.out⟩⟩
end Go.Proofs.Ytlmmhhbdibcijaa
