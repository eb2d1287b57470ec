/-
  The contract of sort.insertionSort over a row of edits. For every row.
-/
import Derived.Test.YtboiigeomgdkjaaSort1
set_option linter.unusedVariables false
set_option maxHeartbeats 1000000
set_option maxRecDepth 100000
namespace Go.Proofs.Ytboiigeomgdkjaa
open Go.RowKit Go.PlainAid Go.Lib
theorem ins_any (w : World) (b o n c : Nat) (f : Nat → St) (a e : Nat) (ha : a ≤ e) (he : e ≤ n) (hn : n ≤ 4294967296) (h : Q w b o n f) :
    Calls Try.prog 38 #[.iface 54 (.slice (some ⟨b, o, none⟩) n c), .int .i64 a, .int .i64 e] w (SP w b o n a e f) := by
  have mL := reach_less (some ⟨b, o, none⟩) n c
  have mS := reach_swap (some ⟨b, o, none⟩) n c
  have HQ := Lib.hid h
  clear h
  go_enter Try.func38, Try.ntmps38
  go_wp2
  go_loopw [6] (fun iv wr => ∃ (i : Nat) (g : Nat → St), iv = .int .i64 i ∧ a < i ∧ i ≤ e + 1 ∧ Hid (Srt ltE a i g ∧ SR w b o n a e f g wr)) (fun iv _ => e + 1 - (intOf iv).toNat)
  case atStart => exact ⟨a + 1, f, by go_num, by omega, by omega, fun i j h1 h2 h3 => by omega, SR.start _ _ HQ.out⟩
  case round =>
    clear HQ
    obtain ⟨i, g, rfl, hai, hie, HG⟩ := hrel
    by_cases hlt : i < e
    · go_wp2
      go_loopw [7] (fun jv wr2 => ∃ (j : Nat) (g2 : Nat → St), jv = .int .i64 j ∧ a ≤ j ∧ j ≤ i ∧ Hid (Ins ltE a i j g2 ∧ SR w b o n a e f g2 wr2)) (fun jv _ => (intOf jv).toNat)
      case atStart => exact ⟨i, g, rfl, by omega, Nat.le_refl _, Ins.start HG.out.1, HG.out.2⟩
      case round =>
        clear HG
        obtain ⟨j, g2, rfl, haj, hji, HJ⟩ := hrel
        by_cases hja : a < j
        · have hl := less_any wr b o n c g2 j (j - 1) (by omega) (by omega) hn HJ.out.2.1
          rw [show (((j - 1 : Nat) : Int)) = (j : Int) - 1 by omega] at hl
          cases hlv : ltE (g2 j) (g2 (j - 1)) with
          | true =>
            rw [hlv] at hl
            have hsw := fun q => swap_any (wr.drewN q) b o n c g2 j (j - 1) (by omega) (by omega) (by omega) hn (HJ.out.2.1.drewN q)
            rw [show (((j - 1 : Nat) : Int)) = (j : Int) - 1 by omega] at hsw
            go_wp2_with (first
              | (go_at_call 59; refine hl.mono ?_; rintro e w' ⟨rfl, q, rfl⟩)
              | (go_at_call 60; refine (hsw _).mono ?_; rintro e w' ⟨rfl, hq2, hg2⟩))
            go_roundw
            case rel =>
              refine ⟨j - 1, swf g2 j (j - 1), by congr 1; omega, by omega, by omega, HJ.out.1.swap ordE hja hji hlv, (HJ.out.2.drewN q).swap (by omega) (by omega) (by omega) (by omega) hq2 hg2 fun hs => ?_⟩
              exfalso
              have := HJ.out.2.2.2.1 hs
              rw [this] at hlv
              rw [hs (j - 1) j (by omega) (by omega) (by omega)] at hlv
              cases hlv
            case measure => simp [intOf]; omega
          | false =>
            rw [hlv] at hl
            go_wp2_with (go_at_call 59; refine hl.mono ?_; rintro e w' ⟨rfl, q, rfl⟩)
            go_roundw
            case rel => exact ⟨i + 1, g2, by go_num, by omega, by omega, HJ.out.1.stop ordE haj hji (.inr hlv), HJ.out.2.drewN q⟩
            case measure => simp [intOf]; omega
        · go_wp2
          go_roundw
          case rel => exact ⟨i + 1, g2, by go_num, by omega, by omega, HJ.out.1.stop ordE haj hji (.inl (by omega)), HJ.out.2⟩
          case measure => simp [intOf]; omega
    · go_wp2
      go_end0
      exact ⟨rfl, g, HG.out.2.1, HG.out.2.2.1, HG.out.1.sub (Nat.le_refl _) (by omega), HG.out.2.2.2.1, HG.out.2.2.2.2⟩
/-- at no element or one nothing turns -/
theorem ins_none (w : World) (T : TypeId) (v : Value) (a e : Nat) (hae : e ≤ a + 1) (ha : a ≤ 4294967296) (he : e ≤ 4294967296) : Calls Try.prog 38 #[.iface T v, .int .i64 a, .int .i64 e] w fun e w' => e = .returned (.tuple #[]) ∧ w = w' := by
  go_enter Try.func38, Try.ntmps38
  go_wp2
  refine wp_loop_rounds 1 ?_
  rw [rounds_succ]
  have h1 : ¬ ((a : Int) + 1 < (e : Int)) := by omega
  go_wp2
  go_end0
  exact ⟨rfl, rfl⟩
end Go.Proofs.Ytboiigeomgdkjaa
