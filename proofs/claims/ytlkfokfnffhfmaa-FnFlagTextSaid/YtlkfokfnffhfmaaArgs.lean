/-
  The contracts of laws.zzFits3, spec.SizeOf, spec.Both, spec.Joinable over a list of texts that came in. For every list.
-/
import Derived.Test.YtlkfokfnffhfmaaTexts
import Derived.Test.YtlkfokfnffhfmaaQPlain
import Derived.Test.YtlkfokfnffhfmaaLong
namespace Go.Proofs.Ytlkfokfnffhfmaa
open Go.RowKit Go.PlainAid

theorem arg_L {w : World} {B n : Nat} {a : Option Addr} {z : List ByteArray} (h : Arg w B 1 a n (z.map Value.string)) : Arg w B 1 a n ((z.map L).map S) := by
  have e : z.map Value.string = (z.map L).map S := by rw [List.map_map]; exact List.map_congr_left (fun t _ => S_L t)
  rw [← e]; exact h
theorem Row.arg {w : World} {B n c : Nat} {a : Option Addr} {xs : List Value} (h : Row w B 1 (.slice a n c) n xs) : Arg w w.heap.size 1 a n xs := by
  refine ⟨h.len, fun hn => ?_⟩
  obtain ⟨g, o, cap, e, _, hlt, _, _, hx⟩ := h.at_ hn (by omega)
  simp only [Value.slice.injEq] at e
  exact ⟨g, o, e.1, hlt, hx⟩
theorem Arg.cell {w : World} {B : Nat} {a : Option Addr} {ss : List (List UInt8)} (h : Arg w B 1 a ss.length (ss.map S)) {k : Nat} (hk : k < ss.length) :
    ∃ b o, a = some ⟨b, o, none⟩ ∧ b < B ∧ w.cell? ⟨b, o + k, none⟩ = some (.string (mkB ss[k])) := by
  obtain ⟨b, o, e, hb, hx⟩ := h.2 (by omega)
  refine ⟨b, o, e, hb, ?_⟩
  rw [hx k (by omega), List.getElem?_map, List.getElem?_eq_getElem hk]; rfl

def FitsPost (ss : List Bs) (w : World) (e : Ending) (w' : World) : Prop := ∃ b, e = .returned (.bool b) ∧ w = w' ∧ (b = true → ss.length ≤ 2147483647 ∧ ∀ s ∈ ss, s.length ≤ 2147483647)
theorem fits3_any (a : Option Addr) (c : Nat) (ss : List Bs) (w : World) (B : Nat) (ha : Arg w B 1 a ss.length (ss.map S)) (hm : ss.length ≤ maxLen) (hf : ∀ s ∈ ss, s.length ≤ maxLen) :
    Calls Try.prog 17 #[.slice a ss.length c] w (FitsPost ss w) := by
  have HA := Lib.hid ha
  have HF := Lib.hid hf
  unfold maxLen at hm
  clear ha hf
  by_cases h0 : 2147483647 < ss.length
  · go_enter Try.func17, Try.ntmps17
    go_wp2
    go_ret
    exact ⟨false, rfl, rfl, fun h => by cases h⟩
  go_enter Try.func17, Try.ntmps17
  go_wp2
  go_loop [10] (fun iv => ∃ k : Nat, iv = .int .i64 k ∧ k ≤ ss.length ∧ Hid (∀ j (h : j < ss.length), j < k → ss[j].length ≤ 2147483647)) (fun iv => ss.length - (intOf iv).toNat)
  case atStart => exact ⟨0, rfl, Nat.zero_le _, fun j _ h => absurd h (by omega)⟩
  case round =>
    obtain ⟨k, rfl, hk, HJ⟩ := hrel
    by_cases hlt : k < ss.length
    · obtain ⟨b, o, rfl, hb, hc⟩ := HA.out.cell hlt
      have hsz : (mkB ss[k]).size ≤ maxLen := by rw [size_mkB]; exact HF.out _ (List.getElem_mem _)
      have HS : Hid ((mkB ss[k]).size = ss[k].length) := size_mkB _
      unfold maxLen at hsz
      generalize mkB ss[k] = s at *
      by_cases hl : 2147483647 < s.size
      · go_wp2
        go_ret
        exact ⟨false, rfl, rfl, fun h => by cases h⟩
      · go_wp2
        go_round
        case rel => exact ⟨k + 1, by go_num, by omega, (fun j h1 h2 => by
          rcases Nat.lt_succ_iff_lt_or_eq.1 h2 with h | h
          · exact HJ.out j h1 h
          · subst h; rw [← HS.out]; omega)⟩
        case measure => simp [intOf]; omega
    · go_wp2
      go_ret
      refine ⟨true, rfl, rfl, fun _ => ⟨by omega, fun s hs => ?_⟩⟩
      obtain ⟨j, hj, rfl⟩ := List.getElem_of_mem hs
      exact HJ.out j hj (by omega)
/-- how long texts are together, with one for each -/
def tot1 (l : List Bs) : Nat := (l.map fun x => x.length + 1).sum
theorem tot1_take (l : List Bs) (k : Nat) (h : k < l.length) : tot1 (l.take (k + 1)) = tot1 (l.take k) + (l[k].length + 1) := by
  unfold tot1; rw [List.take_succ_eq_append_getElem h, List.map_append, List.sum_append]; rfl
def SizePost (ss : List Bs) (w : World) (e : Ending) (w' : World) : Prop := ∃ z : Int, e = .returned (.int .i64 z) ∧ w = w' ∧ 0 ≤ z ∧ z ≤ 1000001 ∧ (z ≤ 1000000 → tot1 ss ≤ 1000000)
theorem sizeOf_any (a : Option Addr) (c : Nat) (ss : List Bs) (w : World) (B : Nat) (ha : Arg w B 1 a ss.length (ss.map S)) (hm : ss.length ≤ 2147483647) (hf : ∀ s ∈ ss, s.length ≤ 2147483647) :
    Calls Try.prog 18 #[.slice a ss.length c] w (SizePost ss w) := by
  have HA := Lib.hid ha
  have HF := Lib.hid hf
  clear ha hf
  go_enter Try.func18, Try.ntmps18
  go_wp2
  go_loop [3, 8] (fun tv iv => ∃ (k t : Nat), iv = .int .i64 k ∧ k ≤ ss.length ∧ tv = .int .i64 t ∧ t ≤ 1000000 ∧ Hid (t = tot1 (ss.take k))) (fun _ iv => ss.length - (intOf iv).toNat)
  case atStart => exact ⟨0, 0, rfl, Nat.zero_le _, rfl, by omega, rfl⟩
  case round =>
    obtain ⟨k, t, rfl, hk, rfl, ht, HT⟩ := hrel
    by_cases hlt : k < ss.length
    · obtain ⟨b, o, rfl, hb, hc⟩ := HA.out.cell hlt
      have hsz : (mkB ss[k]).size ≤ 2147483647 := by rw [size_mkB]; exact HF.out _ (List.getElem_mem _)
      have HS : Hid ((mkB ss[k]).size = ss[k].length) := size_mkB _
      generalize mkB ss[k] = s at *
      by_cases hl : (1000000 : Int) - (t : Int) ≤ (s.size : Int)
      · go_wp2
        go_ret
        exact ⟨1000001, rfl, rfl, by omega, by omega, fun h => by omega⟩
      · go_wp2
        go_round
        case rel => exact ⟨k + 1, t + (s.size + 1), by go_num, by omega, by go_num, by omega, by show _ = _; rw [tot1_take ss k hlt, HS.out, HT.out]⟩
        case measure => simp [intOf]; omega
    · go_wp2
      go_ret
      refine ⟨t, rfl, rfl, by omega, by omega, fun _ => ?_⟩
      have := HT.out
      rw [List.take_of_length_le (by omega)] at this
      omega
theorem hasI_has (s : ByteArray) (b : UInt8) : hasI s (b.toNat : Int) = has b (L s) := by
  rw [Bool.eq_iff_iff, hasI_iff, has_iff]
theorem both_any (s : ByteArray) (w : World) (hs : s.size ≤ maxLen) : Calls Try.prog 35 #[.string s] w fun e w' => e = .returned (.bool (both (L s))) ∧ w = w' := by
  have h39 : hasI s 39 = has 39 (L s) := hasI_has s 39
  have h34 : hasI s 34 = has 34 (L s) := hasI_has s 34
  have HS := Lib.hid hs
  unfold both
  rw [← h39, ← h34]
  clear h39 h34 hs
  cases hc : hasI s 39 with
  | true =>
    go_enter Try.func35, Try.ntmps35
    go_wp2_with fail
    refine (has_any s _ _ HS.out).mono ?_
    rintro e w1 ⟨rfl, rfl⟩
    go_wp2_with fail
    refine (has_any s _ _ HS.out).mono ?_
    rintro e w1 ⟨rfl, rfl⟩
    go_wp2
    go_ret
    exact ⟨rfl, rfl⟩
  | false =>
    go_enter Try.func35, Try.ntmps35
    go_wp2_with fail
    refine (has_any s _ _ HS.out).mono ?_
    rintro e w1 ⟨rfl, rfl⟩
    go_wp2
    go_ret
    exact ⟨rfl, rfl⟩

theorem joinable_take (ss : List Bs) (k : Nat) (h : k < ss.length) : joinable (ss.take (k + 1)) = (joinable (ss.take k) && (!(ss[k]).isEmpty && !both ss[k])) := by
  unfold joinable; rw [List.take_succ_eq_append_getElem h, List.all_append]; simp
theorem joinable_no {ss : List Bs} {k : Nat} (h : k < ss.length) (hx : (!(ss[k]).isEmpty && !both ss[k]) = false) : joinable ss = false := by
  unfold joinable; rw [List.all_eq_false]; exact ⟨ss[k], List.getElem_mem _, by rw [hx]; simp⟩
theorem joinable_any (a : Option Addr) (c : Nat) (ss : List Bs) (w : World) (B : Nat) (ha : Arg w B 1 a ss.length (ss.map S)) (hm : ss.length ≤ 2147483647) (hf : ∀ s ∈ ss, s.length ≤ maxLen) :
    Calls Try.prog 19 #[.slice a ss.length c] w fun e w' => e = .returned (.bool (joinable ss)) ∧ w = w' := by
  have HA := Lib.hid ha
  have HF := Lib.hid hf
  clear ha hf
  go_enter Try.func19, Try.ntmps19
  go_wp2
  go_loop [7] (fun iv => ∃ (k : Nat), iv = .int .i64 k ∧ k ≤ ss.length ∧ Hid (joinable (ss.take k) = true)) (fun iv => ss.length - (intOf iv).toNat)
  case atStart => exact ⟨0, rfl, Nat.zero_le _, rfl⟩
  case round =>
    obtain ⟨k, rfl, hk, HJ⟩ := hrel
    by_cases hlt : k < ss.length
    · obtain ⟨b, o, rfl, hb, hc⟩ := HA.out.cell hlt
      have HM : Hid ((mkB ss[k]).size ≤ maxLen) := by show _ ≤ _; rw [size_mkB]; exact HF.out _ (List.getElem_mem _)
      have HS : Hid (L (mkB ss[k]) = ss[k]) := L_mkB _
      generalize mkB ss[k] = s at *
      by_cases h0 : s.toList.isEmpty = true
      · have HN := Lib.hid (joinable_no hlt (by rw [← HS.out, ← toList_L, h0]; rfl))
        go_wp2
        go_ret
        exact ⟨by rw [HN.out]; rfl, rfl⟩
      · have h0' : s.toList.isEmpty = false := by simpa using h0
        clear h0
        cases hbo : both (L s) with
        | true =>
          have HN := Lib.hid (joinable_no hlt (by rw [← HS.out, hbo, Bool.not_true, Bool.and_false]))
          have HBO := Lib.hid hbo
          clear hbo
          go_wp2_with (go_at_call 35; refine (both_any _ _ HM.out).mono ?_; rw [HBO.out]; rintro e w' ⟨rfl, rfl⟩)
          go_ret
          exact ⟨by rw [HN.out]; rfl, rfl⟩
        | false =>
          have HN := Lib.hid (joinable_take ss k hlt)
          have HI := Lib.hid h0'
          have HBO := Lib.hid hbo
          clear hbo
          go_wp2_with (go_at_call 35; refine (both_any _ _ HM.out).mono ?_; rw [HBO.out]; rintro e w' ⟨rfl, rfl⟩)
          go_round
          case rel => exact ⟨k + 1, by go_num, by omega, by show _ = _; rw [HN.out, HJ.out, ← HS.out, ← toList_L, HI.out, toList_L, HBO.out]; rfl⟩
          case measure => simp [intOf]; omega
    · have HN := HJ.out
      rw [List.take_of_length_le (by omega)] at HN
      have HJ2 := Lib.hid HN
      clear HN
      go_wp2
      go_ret
      exact ⟨by rw [HJ2.out]; rfl, rfl⟩
end Go.Proofs.Ytlkfokfnffhfmaa
