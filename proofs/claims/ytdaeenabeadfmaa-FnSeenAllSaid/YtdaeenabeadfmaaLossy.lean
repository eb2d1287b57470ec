/-
  The contract of (*dedup).seenLossy over its cache. For every cache and number.
-/
import Derived.Test.YtdaeenabeadfmaaFnvN
import Derived.Test.YtdaeenabeadfmaaRow
import Derived.Laws.LoneSync
import Derived.Outline
set_option linter.unusedVariables false
set_option maxHeartbeats 2000000
set_option maxRecDepth 100000
namespace Go.Proofs.Ytdaeenabeadfmaa
open Go.RowKit Go.PlainAid Go.Lib

/-- the cache's cells -/
def Cache (w : World) (d : Nat) (C : Nat → Int) : Prop := d < w.heap.size ∧ ∀ j, j < 512 → w.cell? ⟨d, j, none⟩ = some (.int .u64 (C j)) ∧ w.frozen? ⟨d, j, none⟩ = false ∧ 0 ≤ C j ∧ C j ≤ 18446744073709551615
def upd (C : Nat → Int) (k : Nat) (x : Int) : Nat → Int := fun j => if j = k then x else C j
theorem Cache.put {w : World} {d : Nat} {C : Nat → Int} (h : Cache w d C) (k : Nat) (hk : k < 512) (x : Int) (h0 : 0 ≤ x) (h1 : x ≤ 18446744073709551615) : Cache (w.setCell ⟨d, k, none⟩ (.int .u64 x)) d (upd C k x) := by
  refine ⟨by simpa [World.setCell] using h.1, fun j hj => ?_⟩
  obtain ⟨a1, a2, a3, a4⟩ := h.2 j hj
  rw [World.frozen?_setCell]
  unfold upd
  by_cases hjk : j = k
  · subst hjk
    rw [if_pos rfl, World.cell?_setCell_same _ _ _ a1]
    exact ⟨rfl, a2, h0, h1⟩
  · rw [if_neg hjk, World.cell?_setCell_other _ _ _ _ (fun e => hjk (by injection e with _ e; exact e.symm))]
    exact ⟨a1, a2, a3, a4⟩
/-- what seenLossy leaves -/
def LossyPost (w : World) (d : Nat) (C : Nat → Int) (h : Nat) (e : Ending) (w' : World) : Prop :=
  ∃ (b : Bool) (C' : Nat → Int), e = .returned (.bool b) ∧ Cache w' d C' ∧ w.grownBy w' (some d) ∧ ((b = true ∧ C' = C ∧ ∃ j, j < 4 ∧ C (h % 128 * 4 + j) = h) ∨ (b = false ∧ (∀ j, j < 4 → C (h % 128 * 4 + j) ≠ h) ∧ ∃ k, k < 4 ∧ C' = upd C (h % 128 * 4 + k) h))
theorem fnvN_range (x h : Int) (k : Nat) (hk : 0 < k) : 0 ≤ fnvN x h k ∧ fnvN x h k ≤ 18446744073709551615 := by
  obtain ⟨k, rfl⟩ : ∃ j, k = j + 1 := ⟨k - 1, by omega⟩
  show 0 ≤ fnv1 _ _ ∧ fnv1 _ _ ≤ _
  unfold fnv1
  rw [IntKind.wrap_u64]; omega
theorem seenLossy_any (w : World) (d : Nat) (C : Nat → Int) (hc : Cache w d C) (h : Nat) (hh : h < 18446744073709551616) :
    Calls Try.prog 11 #[.pointer (some ⟨d, 0, none⟩), .int .u64 (h : Int)] w (LossyPost w d C h) := by
  have HC := Lib.hid hc
  clear hc
  obtain ⟨q, hq⟩ : ∃ q, q = h % 128 := ⟨_, rfl⟩
  have hq1 : q < 128 := by omega
  have hq2 : (h : Int) % 128 = (q : Int) := by omega
  have HQ := Lib.hid hq
  have HH := Lib.hid hh
  clear hq hh
  go_enter Try.func11, Try.ntmps11
  go_wp2
  go_loop [6] (fun iv => ∃ i : Nat, iv = .int .i64 i ∧ i ≤ 4 ∧ Hid (∀ j, j < i → C (q * 4 + j) ≠ (h : Int))) (fun iv => 4 - (intOf iv).toNat)
  case atStart => exact ⟨0, rfl, by omega, fun j hj => by omega⟩
  case round =>
    obtain ⟨i, rfl, hi, HN⟩ := hrel
    clear hq2
    by_cases hlt : i < 4
    · obtain ⟨a1, a2, a3, a4⟩ := HC.out.2 (q * 4 + i) (by omega)
      have hld := run_call_load (P := Try.prog) Try.func13 (by kernel_rfl) (by kernel_rfl) (by kernel_rfl) .u64 (by kernel_rfl) a1
      by_cases he : C (q * 4 + i) = (h : Int)
      · have e1 : (C (q * 4 + i) == (h : Int)) = true := by simp [he]
        have HE := Lib.hid he
        clear he
        go_wp2
        go_ret
        exact ⟨true, C, rfl, HC.out, World.grownBy.refl _ _, .inl ⟨rfl, rfl, i, hlt, by rw [← HQ.out]; exact HE.out⟩⟩
      · have e1 : (C (q * 4 + i) == (h : Int)) = false := by simp [he]
        have HE := Lib.hid he
        clear he
        go_wp2
        go_round
        case rel =>
          refine ⟨i + 1, by go_num, by omega, fun j hj => ?_⟩
          by_cases hji : j = i
          · subst hji; exact HE.out
          · exact HN.out j (by omega)
        case measure => simp [intOf]; omega
    · go_wp2
      go_loop [7, 28] (fun cv iv => ∃ (i c : Nat), iv = .int .i64 i ∧ i ≤ 4 ∧ cv = .int .u64 (c : Int) ∧ c < 18446744073709551616) (fun _ iv => 4 - (intOf iv).toNat)
      case atStart => exact ⟨0, 14695981039346656037, rfl, by omega, rfl, by omega⟩
      case round =>
        obtain ⟨k, c, rfl, hk, rfl, hc⟩ := hrel
        have HCC := Lib.hid hc
        clear hc
        by_cases hlt2 : k < 4
        · obtain ⟨a1, a2, a3, a4⟩ := HC.out.2 (q * 4 + k) (by omega)
          have hf := fnvUint64_any (c : Int) (C (q * 4 + k)) w a3 (WalkArith.wf_u64 ⟨a3, a4⟩)
          have hr := fnvN_range (C (q * 4 + k)) (c : Int) 8 (by omega)
          obtain ⟨c2, hc2⟩ := Int.eq_ofNat_of_zero_le hr.1
          rw [hc2] at hf hr
          have HR := Lib.hid hr.2
          clear hr hc2 a2 a3 a4
          go_wp2_with fail
          refine hf.mono ?_
          rintro e w' ⟨rfl, rfl⟩
          clear hf
          go_wp2_with fail
          go_round
          case rel => exact ⟨k + 1, c2, by go_num, by omega, rfl, by have := HR.out; omega⟩
          case measure => simp [intOf]; omega
        · obtain ⟨p, hp⟩ : ∃ p, p = c % 4 := ⟨_, rfl⟩
          have hp1 : p < 4 := by omega
          have hp2 : (c : Int) % 4 = (p : Int) := by omega
          have HP := Lib.hid hp
          obtain ⟨a1, a2, a3, a4⟩ := HC.out.2 (q * 4 + p) (by omega)
          have hst := run_call_store (P := Try.prog) Try.func15 (by kernel_rfl) (by kernel_rfl) (by kernel_rfl) (by kernel_rfl) (k := .u64) (y := (h : Int)) a1 a2
          clear hp
          go_wp2
          go_ret
          exact ⟨false, _, rfl, HC.out.put (q * 4 + p) (by omega) h (by omega) (by have := HH.out; omega), ⟨rfl, rfl, rfl, by simp [World.setCell], fun b _ hne => Below.heap_setCell w ⟨d, q * 4 + p, none⟩ _ b (fun e => hne (by rw [e]))⟩, .inr ⟨rfl, fun j hj => by rw [← HQ.out]; exact HN.out j (by omega), p, hp1, by rw [← HQ.out]⟩⟩
end Go.Proofs.Ytdaeenabeadfmaa
