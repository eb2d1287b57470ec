/-
  The contracts of laws.zzFits3 and spec.SizeOf over a list of texts that came in. For every list.
-/
import Derived.Test.YtboiigeomgdkjaaApartPlain
set_option linter.unusedVariables false
namespace Go.Proofs.Ytboiigeomgdkjaa
open Go.RowKit Go.PlainAid Go.Lib

theorem argS_L {w : World} {B n : Nat} {a : Option Addr} {z : List ByteArray} (h : Arg w B 1 a n (z.map Value.string)) : Arg w B 1 a n ((z.map L).map S) := by
  have e : z.map Value.string = (z.map L).map S := by rw [List.map_map]; exact List.map_congr_left (fun t _ => S_L t)
  rw [← e]; exact h
theorem Arg.cell {w : World} {B : Nat} {a : Option Addr} {ss : List (List UInt8)} (h : Arg w B 1 a ss.length (ss.map S)) {k : Nat} (hk : k < ss.length) :
    ∃ b o, a = some ⟨b, o, none⟩ ∧ b < B ∧ w.cell? ⟨b, o + k, none⟩ = some (.string (mkB ss[k])) := by
  obtain ⟨b, o, e, hb, hx⟩ := h.2 (by omega)
  refine ⟨b, o, e, hb, ?_⟩
  rw [hx k (by omega), List.getElem?_map, List.getElem?_eq_getElem hk]; rfl

def FitsPost (ss : List Bs) (w : World) (e : Ending) (w' : World) : Prop := ∃ b, e = .returned (.bool b) ∧ w = w' ∧ (b = true → ss.length ≤ 2147483647 ∧ ∀ s ∈ ss, s.length ≤ 2147483647)
theorem fits3_any (a : Option Addr) (c : Nat) (ss : List Bs) (w : World) (B : Nat) (ha : Arg w B 1 a ss.length (ss.map S)) (hm : ss.length ≤ maxLen) (hf : ∀ s ∈ ss, s.length ≤ maxLen) :
    Calls Try.prog 22 #[.slice a ss.length c] w (FitsPost ss w) := by
  have HA := Lib.hid ha
  have HF := Lib.hid hf
  unfold maxLen at hm
  clear ha hf
  by_cases h0 : 2147483647 < ss.length
  · go_enter Try.func22, Try.ntmps22
    go_wp2
    go_ret
    exact ⟨false, rfl, rfl, fun h => by cases h⟩
  go_enter Try.func22, Try.ntmps22
  go_wp2
  go_loop [10] (fun iv => ∃ k : Nat, iv = .int .i64 k ∧ k ≤ ss.length ∧ Hid (∀ j (h : j < ss.length), j < k → ss[j].length ≤ 2147483647)) (fun iv => ss.length - (intOf iv).toNat)
  case atStart => exact ⟨0, rfl, Nat.zero_le _, fun j _ h => absurd h (by omega)⟩
  case round =>
    obtain ⟨k, rfl, hk, HJ⟩ := hrel
    by_cases hlt : k < ss.length
    · obtain ⟨b, o, rfl, hb, hc⟩ := HA.out.cell hlt
      have hsz : (mkB ss[k]).size ≤ maxLen := by rw [size_mkB]; exact HF.out _ (List.getElem_mem _)
      have HS : Hid ((mkB ss[k]).size = ss[k].length) := size_mkB _
      unfold maxLen at hsz
      generalize mkB ss[k] = s at *
      by_cases hl : 2147483647 < s.size
      · go_wp2
        go_ret
        exact ⟨false, rfl, rfl, fun h => by cases h⟩
      · go_wp2
        go_round
        case rel => exact ⟨k + 1, by go_num, by omega, (fun j h1 h2 => by
          rcases Nat.lt_succ_iff_lt_or_eq.1 h2 with h | h
          · exact HJ.out j h1 h
          · subst h; rw [← HS.out]; omega)⟩
        case measure => simp [intOf]; omega
    · go_wp2
      go_ret
      refine ⟨true, rfl, rfl, fun _ => ⟨by omega, fun s hs => ?_⟩⟩
      obtain ⟨j, hj, rfl⟩ := List.getElem_of_mem hs
      exact HJ.out j hj (by omega)
/-- how long texts are together, with one for each -/
def tot1 (l : List Bs) : Nat := (l.map fun x => x.length + 1).sum
theorem tot1_take (l : List Bs) (k : Nat) (h : k < l.length) : tot1 (l.take (k + 1)) = tot1 (l.take k) + (l[k].length + 1) := by
  unfold tot1; rw [List.take_succ_eq_append_getElem h, List.map_append, List.sum_append]; rfl
def SizePostS (ss : List Bs) (w : World) (e : Ending) (w' : World) : Prop := ∃ z : Int, e = .returned (.int .i64 z) ∧ w = w' ∧ 0 ≤ z ∧ z ≤ 1000001 ∧ (z ≤ 1000000 → tot1 ss ≤ 1000000)
theorem sizeOf_any (a : Option Addr) (c : Nat) (ss : List Bs) (w : World) (B : Nat) (ha : Arg w B 1 a ss.length (ss.map S)) (hm : ss.length ≤ 2147483647) (hf : ∀ s ∈ ss, s.length ≤ 2147483647) :
    Calls Try.prog 23 #[.slice a ss.length c] w (SizePostS ss w) := by
  have HA := Lib.hid ha
  have HF := Lib.hid hf
  clear ha hf
  go_enter Try.func23, Try.ntmps23
  go_wp2
  go_loop [3, 8] (fun tv iv => ∃ (k t : Nat), iv = .int .i64 k ∧ k ≤ ss.length ∧ tv = .int .i64 t ∧ t ≤ 1000000 ∧ Hid (t = tot1 (ss.take k))) (fun _ iv => ss.length - (intOf iv).toNat)
  case atStart => exact ⟨0, 0, rfl, Nat.zero_le _, rfl, by omega, rfl⟩
  case round =>
    obtain ⟨k, t, rfl, hk, rfl, ht, HT⟩ := hrel
    by_cases hlt : k < ss.length
    · obtain ⟨b, o, rfl, hb, hc⟩ := HA.out.cell hlt
      have hsz : (mkB ss[k]).size ≤ 2147483647 := by rw [size_mkB]; exact HF.out _ (List.getElem_mem _)
      have HS : Hid ((mkB ss[k]).size = ss[k].length) := size_mkB _
      generalize mkB ss[k] = s at *
      by_cases hl : (1000000 : Int) - (t : Int) ≤ (s.size : Int)
      · go_wp2
        go_ret
        exact ⟨1000001, rfl, rfl, by omega, by omega, fun h => by omega⟩
      · go_wp2
        go_round
        case rel => exact ⟨k + 1, t + (s.size + 1), by go_num, by omega, by go_num, by omega, by show _ = _; rw [tot1_take ss k hlt, HS.out, HT.out]⟩
        case measure => simp [intOf]; omega
    · go_wp2
      go_ret
      refine ⟨t, rfl, rfl, by omega, by omega, fun _ => ?_⟩
      have := HT.out
      rw [List.take_of_length_le (by omega)] at this
      omega
end Go.Proofs.Ytboiigeomgdkjaa
