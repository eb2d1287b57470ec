/-
  The contracts of sort.swapRange and sort.rotate over a row of edits. For every row.
-/
import Derived.Test.YtboiigeomgdkjaaSort1
set_option linter.unusedVariables false
set_option maxHeartbeats 1000000
set_option maxRecDepth 100000
namespace Go.Proofs.Ytboiigeomgdkjaa
open Go.RowKit Go.PlainAid Go.Lib
/-- what a moving function leaves -/
def MP (w : World) (b o n : Nat) (lo hi : Nat) (f g : Nat → St) (ex : Ending) (w' : World) : Prop := ex = .returned (.tuple #[]) ∧ Q w' b o n g ∧ Mv lo hi f g ∧ GB w w' b
theorem swapRange_any (w : World) (b o n c : Nat) (f : Nat → St) (lo hi x y k : Nat) (hx : lo ≤ x) (hxy : x + k ≤ y) (hy : y + k ≤ hi) (hhi : hi ≤ n) (hn : n ≤ 4294967296) (h : Q w b o n f) :
    Calls Try.prog 41 #[.iface 54 (.slice (some ⟨b, o, none⟩) n c), .int .i64 x, .int .i64 y, .int .i64 k] w (MP w b o n lo hi f (srf f x y k)) := by
  have mS := reach_swap (some ⟨b, o, none⟩) n c
  have HQ := Lib.hid h
  clear h
  go_enter Try.func41, Try.ntmps41
  go_wp2
  go_loopw [8] (fun iv wr => ∃ i : Nat, iv = .int .i64 i ∧ i ≤ k ∧ Hid (Q wr b o n (srf f x y i) ∧ Mv lo hi f (srf f x y i) ∧ GB w wr b)) (fun iv _ => k - (intOf iv).toNat)
  case atStart => exact ⟨0, rfl, Nat.zero_le _, by rw [srf_zero]; exact ⟨HQ.out, Mv.refl _ _ _, grow_refl _ _⟩⟩
  case round =>
    clear HQ
    obtain ⟨i, rfl, hi, HI⟩ := hrel
    by_cases hlt : i < k
    · have hsw := swap_any wr b o n c _ (x + i) (y + i) (by omega) (by omega) (by omega) hn HI.out.1
      rw [show ((x + i : Nat) : Int) = (x : Int) + i by omega, show ((y + i : Nat) : Int) = (y : Int) + i by omega, srf_succ _ _ _ _ (by omega)] at hsw
      go_wp2_with (go_at_call 60; refine hsw.mono ?_; rintro e w' ⟨rfl, hq2, hg2⟩)
      go_roundw
      case rel =>
        refine ⟨i + 1, by go_num, by omega, hq2, ?_, grow_trans HI.out.2.2 hg2⟩
        rw [← srf_succ _ _ _ _ (by omega)]
        exact HI.out.2.1.trans (Mv.swap _ (by omega) (by omega) (by omega) (by omega))
      case measure => simp [intOf]; omega
    · go_wp2
      go_end0
      obtain rfl : i = k := by omega
      exact ⟨rfl, HI.out⟩
theorem rotate_any (w : World) (b o n c : Nat) (f : Nat → St) (x m y : Nat) (hx : x < m) (hm : m < y) (hy : y ≤ n) (hn : n ≤ 4294967296) (h : Q w b o n f) :
    Calls Try.prog 40 #[.iface 54 (.slice (some ⟨b, o, none⟩) n c), .int .i64 x, .int .i64 m, .int .i64 y] w (MP w b o n x y f (rot f x m y)) := by
  have HQ := Lib.hid h
  clear h
  go_enter Try.func40, Try.ntmps40
  go_wp2
  go_loopw [8, 9] (fun iv jv wr => ∃ (i j : Nat) (g : Nat → St), iv = .int .i64 i ∧ jv = .int .i64 j ∧ 0 < i ∧ 0 < j ∧ i ≤ m - x ∧ j ≤ y - m ∧ Hid (Q wr b o n g ∧ Mv x y f g ∧ rot g (m - i) m (m + j) = rot f x m y ∧ GB w wr b)) (fun iv jv _ => (intOf iv).toNat + (intOf jv).toNat)
  case atStart => exact ⟨m - x, y - m, f, by congr 1; omega, by congr 1; omega, by omega, by omega, Nat.le_refl _, Nat.le_refl _, HQ.out, Mv.refl _ _ _, by rw [show m - (m - x) = x by omega, show m + (y - m) = y by omega], grow_refl _ _⟩
  case round =>
    clear HQ
    obtain ⟨i, j, g, rfl, rfl, hi0, hj0, hi, hj, HG⟩ := hrel
    by_cases hne : i = j
    · subst hne
      have hsw := swapRange_any wr b o n c g x y (m - i) m i (by omega) (by omega) (by omega) hy hn HG.out.1
      rw [show (((m - i : Nat) : Int)) = (m : Int) - i by omega, rot_eq _ _ _ (by omega), HG.out.2.2.1] at hsw
      go_wp2_with (go_at_call 41; refine hsw.mono ?_; rintro e w' ⟨rfl, hq2, hm2, hg2⟩)
      go_end0
      exact ⟨rfl, hq2, HG.out.2.1.trans hm2, grow_trans HG.out.2.2.2 hg2⟩
    · have hne' : ((i : Int) != (j : Int)) = true := by simp; omega
      by_cases hgt : j < i
      · have hsw := swapRange_any wr b o n c g x y (m - i) m j (by omega) (by omega) (by omega) hy hn HG.out.1
        rw [show (((m - i : Nat) : Int)) = (m : Int) - i by omega] at hsw
        go_wp2_with (go_at_call 41; refine hsw.mono ?_; rintro e w' ⟨rfl, hq2, hm2, hg2⟩)
        go_roundw
        case rel => exact ⟨i - j, j, _, by congr 1; omega, rfl, by omega, by omega, by omega, by omega, hq2, HG.out.2.1.trans hm2, by rw [rot_gt _ _ _ _ (by omega) hgt]; exact HG.out.2.2.1, grow_trans HG.out.2.2.2 hg2⟩
        case measure => simp [intOf]; omega
      · have hsw := swapRange_any wr b o n c g x y (m - i) (m + j - i) i (by omega) (by omega) (by omega) hy hn HG.out.1
        rw [show (((m - i : Nat) : Int)) = (m : Int) - i by omega, show (((m + j - i : Nat) : Int)) = (m : Int) + j - i by omega] at hsw
        go_wp2_with (go_at_call 41; refine hsw.mono ?_; rintro e w' ⟨rfl, hq2, hm2, hg2⟩)
        go_roundw
        case rel => exact ⟨i, j - i, _, rfl, by congr 1; omega, by omega, by omega, by omega, by omega, hq2, HG.out.2.1.trans hm2, by rw [rot_lt _ _ _ _ (by omega) (by omega)]; exact HG.out.2.2.1, grow_trans HG.out.2.2.2 hg2⟩
        case measure => simp [intOf]; omega
end Go.Proofs.Ytboiigeomgdkjaa
