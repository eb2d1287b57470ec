/-
  What the sorting functions leave; how the methods of the row are reached. For every row.
-/
import Derived.Test.YtboiigeomgdkjaaQ
set_option linter.unusedVariables false
set_option maxHeartbeats 1000000
set_option maxRecDepth 100000
namespace Go.Proofs.Ytboiigeomgdkjaa
open Go.RowKit Go.PlainAid Go.Lib

theorem reach_less (p : Option Addr) (n c : Nat) (w : World) : Sem.run Try.prog (method 185 54 (.slice p n c) "Less") w = .ok (59, .slice p n c) w := by kernel_rfl
theorem reach_swap (p : Option Addr) (n c : Nat) (w : World) : Sem.run Try.prog (method 185 54 (.slice p n c) "Swap") w = .ok (60, .slice p n c) w := by kernel_rfl
theorem reach_len (p : Option Addr) (n c : Nat) (w : World) : Sem.run Try.prog (method 185 54 (.slice p n c) "Len") w = .ok (58, .slice p n c) w := by kernel_rfl

/-- what a sorting function leaves -/
def SP (w : World) (b o n a e : Nat) (f : Nat → St) (ex : Ending) (w' : World) : Prop :=
  ex = .returned (.tuple #[]) ∧ ∃ g, Q w' b o n g ∧ Mv a e f g ∧ Srt ltE a e g ∧ (Srt ltE a e f → g = f) ∧ GB w w' b
/-- what lies in the block while it is sorted -/
def SR (w : World) (b o n a e : Nat) (f g : Nat → St) (w' : World) : Prop := Q w' b o n g ∧ Mv a e f g ∧ (Srt ltE a e f → g = f) ∧ GB w w' b
theorem SR.start {w : World} {b o n : Nat} (a e : Nat) {f : Nat → St} (h : Q w b o n f) : SR w b o n a e f f w := ⟨h, Mv.refl _ _ _, fun _ => rfl, grow_refl _ _⟩
theorem SR.drewN {w w' : World} {b o n a e : Nat} {f g : Nat → St} (h : SR w b o n a e f g w') (m : Nat) : SR w b o n a e f g (w'.drewN m) := ⟨h.1.drewN m, h.2.1, h.2.2.1, grow_trans h.2.2.2 (grow_drewN _ _ _)⟩
theorem SR.swap {w w' w2 : World} {b o n a e : Nat} {f g : Nat → St} (h : SR w b o n a e f g w') {i j : Nat} (hi : a ≤ i) (hi2 : i < e) (hj : a ≤ j) (hj2 : j < e) (hq : Q w2 b o n (swf g i j)) (hg : GB w' w2 b) (hs : Srt ltE a e f → swf g i j = f) : SR w b o n a e f (swf g i j) w2 :=
  ⟨hq, h.2.1.trans (Mv.swap _ hi hi2 hj hj2), hs, grow_trans h.2.2.2 hg⟩
end Go.Proofs.Ytboiigeomgdkjaa
