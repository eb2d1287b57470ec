/-
  The contracts of spec.IsBits and spec.BinaryMarker, and the walk of the law FnMarkerBinary. For every input.
-/
import Derived.Test.YtjcekehmjhpedaaCutImpl
namespace Go.Proofs.Ytjcekehmjhpedaa
open Go.RowKit Go.PlainAid

def IsBitsPost (s : ByteArray) (w : World) (e : Ending) (w' : World) : Prop :=
  ∃ b, e = .returned (.bool b) ∧ w = w' ∧ (b = true → s = ⟨#[121]⟩ ∨ (1 ≤ s.size ∧ s.size ≤ 60 ∧ ∀ k, k < s.size → bt s k = 48 ∨ bt s k = 49))
theorem isBits_any (s : ByteArray) (hs : s.size ≤ 4294967296) (w : World) : Calls Try.prog 19 #[.string s] w (IsBitsPost s w) := by
  have hb := get_bt s
  cases hy : (s.toList == (⟨#[121]⟩ : ByteArray).toList) with
  | true =>
    have HY : Hid (s = ⟨#[121]⟩) := beq_str.1 hy
    rw [show (⟨#[121]⟩ : ByteArray).toList = [121] by rw [toList_L]; rfl] at hy
    go_enter Try.func19, Try.ntmps19
    go_wp2
    go_ret
    exact ⟨true, rfl, rfl, fun _ => .inl HY.out⟩
  | false =>
    rw [show (⟨#[121]⟩ : ByteArray).toList = [121] by rw [toList_L]; rfl] at hy
    go_enter Try.func19, Try.ntmps19
    go_wp2
    go_loop [8] (fun iv => ∃ k : Nat, iv = .int .i64 k ∧ k ≤ s.size ∧ Hid (∀ q, q < k → bt s q = 48 ∨ bt s q = 49)) (fun iv => s.size - (intOf iv).toNat)
    case atStart => exact ⟨0, rfl, Nat.zero_le _, fun q h => absurd h (by omega)⟩
    case round =>
      obtain ⟨k, rfl, hk, HQ⟩ := hrel
      by_cases hlt : k < s.size
      · by_cases h48 : (bt s k != 48) = true
        · by_cases h49 : (bt s k != 49) = true
          · go_wp2
            go_ret
            exact ⟨false, rfl, rfl, fun h => by cases h⟩
          · have h49' : (bt s k != 49) = false := by simpa using h49
            have E49 : Hid (bt s k = 49) := by show bt s k = 49; simpa using h49'
            clear h49
            go_wp2
            go_round
            case rel => exact ⟨k + 1, by go_num, by omega, (fun q hq => by
              rcases Nat.lt_succ_iff_lt_or_eq.1 hq with h | h
              · exact HQ.out q h
              · subst h; exact .inr E49.out)⟩
            case measure => simp [intOf]; omega
        · have h48' : (bt s k != 48) = false := by simpa using h48
          have E48 : Hid (bt s k = 48) := by show bt s k = 48; simpa using h48'
          clear h48
          go_wp2
          go_round
          case rel => exact ⟨k + 1, by go_num, by omega, (fun q hq => by
            rcases Nat.lt_succ_iff_lt_or_eq.1 hq with h | h
            · exact HQ.out q h
            · subst h; exact .inl E48.out)⟩
          case measure => simp [intOf]; omega
      · by_cases hz : 1 ≤ s.size
        · by_cases h60 : s.size ≤ 60
          · have e60 : decide ((s.size : Int) ≤ 60) = true := by simp; omega
            go_wp2
            go_ret
            exact ⟨true, rfl, rfl, fun _ => .inr ⟨hz, h60, fun q hq => HQ.out q (by omega)⟩⟩
          · have e60 : decide ((s.size : Int) ≤ 60) = false := by simp; omega
            go_wp2
            go_ret
            exact ⟨false, rfl, rfl, fun h => by cases h⟩
        · go_wp2
          go_ret
          exact ⟨false, by first | rfl | simp [*], rfl, fun h => by cases h⟩
/-- the number that the law makes of bits -/
def lowFold (d : ByteArray) : Nat → Int
  | 0 => 0
  | k + 1 => bits .or .u64 (IntKind.u64.wrap (lowFold d k * 2)) (IntKind.u64.wrap (bits .and .u8 (bt d k) 1))
theorem and1 (c : Int) (h : c = 48 ∨ c = 49) : IntKind.u64.wrap (bits .and .u8 c 1) = c - 48 := by rcases h with rfl | rfl <;> rfl
theorem lowFold_bin (d : ByteArray) : ∀ k, (∀ q, q < k → bt d q = 48 ∨ bt d q = 49) → lowFold d k = binFold d k
  | 0, _ => rfl
  | k + 1, h => by rw [lowFold, binFold, binStep, lowFold_bin d k (fun q hq => h q (by omega)), and1 _ (h k (by omega))]
theorem cut_bin_parts (b d c s1 : ByteArray) (v1 : Int) (b1 : Bool) (hb : hasI b 91 = false) (hd : ∀ k, k < d.size → bt d k = 48 ∨ bt d k = 49) (hl : 1 ≤ d.size ∧ d.size ≤ 60) (h1 : 0 < b.size → bt b (b.size - 1) ≠ 32) (h2 : 0 < c.size → bt c 0 ≠ 32)
    (h3 : Cut (b ++ (P14 ++ d ++ ⟨#[93]⟩) ++ c) (.returned (.tuple #[.string s1, .int .u64 v1, .bool b1]))) : s1 = b ++ c ∧ v1 = lowFold d d.size ∧ b1 = true := by
  have hln : b ++ (P14 ++ d ++ ⟨#[93]⟩) ++ c = lineOf b d c := by unfold lineOf; rw [ByteArray.append_assoc, ByteArray.append_assoc, ByteArray.append_assoc]
  rw [hln] at h3
  have e := cut_bin b d c (fun k hk e => by
    have : hasI b 91 = true := by unfold hasI; rw [List.any_eq_true]; exact ⟨k, List.mem_range.2 hk, by simpa using e⟩
    rw [hb] at this; cases this) hd ⟨hl.1, by omega⟩ h3
  rw [cutS_plain b d c h1 h2, ← lowFold_bin d d.size (fun q hq => hd q hq)] at e
  simp only [cutYes] at e
  injection e with e; injection e with e
  simp at e
  exact e
theorem binMarker_any (d : ByteArray) (hs : d.size ≤ 1000000) (w : World) :
    Calls Try.prog 17 #[.string d] w fun e w' => e = .returned (.string (P14 ++ d ++ ⟨#[93]⟩)) ∧ w = w' := by
  have hp14 : (⟨#[91, 98, 105, 115, 101, 99, 116, 45, 109, 97, 116, 99, 104, 32]⟩ : ByteArray) = P14 := rfl
  have h14 : P14.size = 14 := rfl
  have h93 : (⟨#[93]⟩ : ByteArray).size = 1 := rfl
  go_enter Try.func17, Try.ntmps17
  go_wp2
  go_ret
  exact ⟨rfl, rfl⟩

theorem walkFnMarkerBinary (w : World) (b : ByteArray) (wb : b.size ≤ maxLen) (d : ByteArray) (wd : d.size ≤ maxLen) (c : ByteArray) (wc : c.size ≤ maxLen) :
    Calls Try.prog 6 #[.string b, .string d, .string c] w fun e w' => e = .returned (.bool true) ∧ Below w.heap.size w w' := by
  unfold maxLen at wb
  unfold maxLen at wd
  unfold maxLen at wc
  by_cases gb : 2147483647 < b.size
  · go_enter Try.func6, Try.ntmps6
    go_wp2
    go_ret
    exact ⟨rfl, Below.refl _ _⟩
  by_cases gd : 2147483647 < d.size
  · go_enter Try.func6, Try.ntmps6
    go_wp2
    go_ret
    exact ⟨rfl, Below.refl _ _⟩
  by_cases gc : 2147483647 < c.size
  · go_enter Try.func6, Try.ntmps6
    go_wp2
    go_ret
    exact ⟨rfl, Below.refl _ _⟩
  by_cases gt : 1000000 < b.size + d.size + c.size
  · go_enter Try.func6, Try.ntmps6
    go_wp2_with (go_at_call 13; refine (tooLong_yes3 _ _ _ _ (by omega) (by omega) (by omega) (by omega) (by omega) (by omega) (by omega)).mono ?_; rintro e w' ⟨rfl, rfl⟩)
    go_ret
    exact ⟨rfl, (Below.refl _ _).alloc (Nat.le_refl _) _⟩
  have HB0 := Lib.hid ((Below.refl w.heap.size w).alloc (Nat.le_refl _) (.cells #[.int .i64 (b.size : Int), .int .i64 (d.size : Int), .int .i64 (c.size : Int)] 3))
  have hbd := get_bt d
  have hp14 : (⟨#[91, 98, 105, 115, 101, 99, 116, 45, 109, 97, 116, 99, 104, 32]⟩ : ByteArray) = P14 := rfl
  have h14 : P14.size = 14 := rfl
  have h93 : (⟨#[93]⟩ : ByteArray).size = 1 := rfl
  go_enter Try.func6, Try.ntmps6
  go_wp2_with (go_at_call 13; refine (tooLong_no3 _ _ _ _ (by omega) (by omega) (by omega) (by omega)).mono ?_; rintro e w' ⟨rfl, rfl⟩)
  go_loop [7, 38] (fun vv kv => ∃ (k : Nat) (v : Int), kv = .int .i64 k ∧ k ≤ d.size ∧ vv = .int .u64 v ∧ Hid (v = lowFold d k)) (fun _ kv => d.size - (intOf kv).toNat)
  case atStart => exact ⟨0, 0, rfl, Nat.zero_le _, rfl, rfl⟩
  case round =>
    obtain ⟨k, v, rfl, hk, rfl, HV⟩ := hrel
    have q0 := bt_nonneg d k
    have q1 := bt_le d k
    by_cases hlt : k < d.size
    · go_wp2
      go_round
      case rel => exact ⟨k + 1, _, by go_num, by omega, rfl, by show _ = lowFold d (k + 1); rw [lowFold, ← HV.out]⟩
      case measure => simp [intOf]; omega
    · obtain rfl : k = d.size := by omega
      go_wp2_with fail
      refine (binMarker_any d (by omega) _).mono ?_
      rintro e w1 ⟨rfl, rfl⟩
      have hm : (P14 ++ d ++ ⟨#[93]⟩ : ByteArray).size = d.size + 15 := by rw [ByteArray.size_append, ByteArray.size_append, h14, h93]; omega
      generalize hM : (P14 ++ d ++ ⟨#[93]⟩ : ByteArray) = M at *
      have HM := Lib.hid hM
      clear hM
      go_wp2_with fail
      refine (implCut_any (b ++ M ++ c) (by rw [ByteArray.size_append, ByteArray.size_append]; omega) _).mono ?_
      rintro e w1 ⟨hc1, hb1⟩
      have HC1 := Lib.hid hc1
      obtain ⟨s1, v1, b1, rfl⟩ := hc1.shape
      have HB1 := Lib.hid (HB0.out.trans (hb1.mono (by simp)))
      clear hc1 hb1
      cases hsb : smoothB b with
      | false =>
        have H1 := Lib.hid hsb
        clear hsb
        go_wp2_with fail
        refine (smooth_any b _ (by omega)).mono ?_
        rw [H1.out]
        rintro e w3 ⟨rfl, rfl⟩
        go_wp2_with fail
        refine (implMarker_any 5 (by omega) _).mono ?_
        rintro e w8 ⟨rfl, hb8⟩
        have HB8 := Lib.hid (HB1.out.trans (hb8.mono HB1.out.size))
        clear hb8
        go_wp2_with fail
        refine (cut_five _).mono ?_
        rintro e w9 ⟨⟨s9, rfl⟩, hb9⟩
        have HB9 := Lib.hid (HB8.out.trans (hb9.mono HB8.out.size))
        clear hb9
        go_wp2
        go_ret
        exact ⟨rfl, HB9.out⟩
      | true =>
        have H1 := Lib.hid hsb
        clear hsb
        cases hsc : smoothB c with
        | false =>
          have H2 := Lib.hid hsc
          clear hsc
          go_wp2_with fail
          refine (smooth_any b _ (by omega)).mono ?_
          rw [H1.out]
          rintro e w3 ⟨rfl, rfl⟩
          go_wp2_with fail
          refine (smooth_any c _ (by omega)).mono ?_
          rw [H2.out]
          rintro e w3 ⟨rfl, rfl⟩
          go_wp2_with fail
          refine (implMarker_any 5 (by omega) _).mono ?_
          rintro e w8 ⟨rfl, hb8⟩
          have HB8 := Lib.hid (HB1.out.trans (hb8.mono HB1.out.size))
          clear hb8
          go_wp2_with fail
          refine (cut_five _).mono ?_
          rintro e w9 ⟨⟨s9, rfl⟩, hb9⟩
          have HB9 := Lib.hid (HB8.out.trans (hb9.mono HB8.out.size))
          clear hb9
          go_wp2
          go_ret
          exact ⟨rfl, HB9.out⟩
        | true =>
          have H2 := Lib.hid hsc
          clear hsc
          go_wp2_with fail
          refine (smooth_any b _ (by omega)).mono ?_
          rw [H1.out]
          rintro e w3 ⟨rfl, rfl⟩
          go_wp2_with fail
          refine (smooth_any c _ (by omega)).mono ?_
          rw [H2.out]
          rintro e w3 ⟨rfl, rfl⟩
          go_wp2_with fail
          refine (isBits_any d (by omega) _).mono ?_
          rintro e w3 ⟨q, rfl, rfl, hq⟩
          have HQ := Lib.hid hq
          clear hq
          cases q with
          | false =>
            go_wp2_with fail
            refine (implMarker_any 5 (by omega) _).mono ?_
            rintro e w8 ⟨rfl, hb8⟩
            have HB8 := Lib.hid (HB1.out.trans (hb8.mono HB1.out.size))
            clear hb8
            go_wp2_with fail
            refine (cut_five _).mono ?_
            rintro e w9 ⟨⟨s9, rfl⟩, hb9⟩
            have HB9 := Lib.hid (HB8.out.trans (hb9.mono HB8.out.size))
            clear hb9
            go_wp2
            go_ret
            exact ⟨rfl, HB9.out⟩
          | true =>
            cases hy : (d.toList == (⟨#[121]⟩ : ByteArray).toList) with
            | true =>
              rw [show (⟨#[121]⟩ : ByteArray).toList = [121] by rw [toList_L]; rfl] at hy
              go_wp2_with fail
              refine (implMarker_any 5 (by omega) _).mono ?_
              rintro e w8 ⟨rfl, hb8⟩
              have HB8 := Lib.hid (HB1.out.trans (hb8.mono HB1.out.size))
              clear hb8
              go_wp2_with fail
              refine (cut_five _).mono ?_
              rintro e w9 ⟨⟨s9, rfl⟩, hb9⟩
              have HB9 := Lib.hid (HB8.out.trans (hb9.mono HB8.out.size))
              clear hb9
              go_wp2
              go_ret
              exact ⟨rfl, HB9.out⟩
            | false =>
              have HNY : Hid (d ≠ ⟨#[121]⟩) := fun e => by rw [beq_str.2 e] at hy; cases hy
              rw [show (⟨#[121]⟩ : ByteArray).toList = [121] by rw [toList_L]; rfl] at hy
              have hbits := (HQ.out rfl).resolve_left HNY.out
              have f1 := smooth_facts H1.out
              have f2 := smooth_facts H2.out
              have hc := HC1.out
              rw [← HM.out] at hc
              obtain ⟨rfl, rfl, rfl⟩ := cut_bin_parts b d c s1 v1 b1 f1.1 hbits.2.2 ⟨hbits.1, hbits.2.1⟩ f1.2.2 f2.2.1 hc
              have hv := HV.out
              subst hv
              clear hbits f1 f2 hc
              generalize lowFold d d.size = V
              go_wp2
              go_ret
              exact ⟨rfl, HB1.out⟩
end Go.Proofs.Ytjcekehmjhpedaa
