/-
  The contract of sort.symMerge. For every row.
-/
import Derived.Test.YtboiigeomgdkjaaSymLo
import Derived.Test.YtboiigeomgdkjaaSymHi
set_option linter.unusedVariables false
set_option maxHeartbeats 8000000
set_option maxRecDepth 100000
namespace Go.Proofs.Ytboiigeomgdkjaa
open Go.RowKit Go.PlainAid Go.Lib
theorem sym_any (b o n c : Nat) (hn : n ≤ 4294967296) : ∀ (N : Nat) (w : World) (f : Nat → St) (a m e : Nat), e - a ≤ N → a < m → m < e → e ≤ n → Srt ltE a m f → Srt ltE m e f → Q w b o n f → Calls Try.prog 39 #[.iface 54 (.slice (some ⟨b, o, none⟩) n c), .int .i64 a, .int .i64 m, .int .i64 e] w (SM w b o n a e f) := by
  intro N
  induction N with
  | zero => intro w f a m e h1 h2 h3; omega
  | succ N ih =>
    intro w f a m e hN ham hme he hs1 hs2 hq
    by_cases h1 : m = a + 1
    · subst h1
      have := sym_one w b o n c f a e (by omega) he hn hs2 hq
      rwa [show ((a : Int) + 1) = ((a + 1 : Nat) : Int) by omega] at this
    by_cases h2 : e = m + 1
    · subst h2
      have := sym_two w b o n c f a m (by omega) he hn hs1 hq
      rwa [show ((m : Int) + 1) = ((m + 1 : Nat) : Int) by omega] at this
    by_cases h3 : m ≤ (a + e) / 2
    · exact sym_lo N b o n c hn ih w f a m e _ hN (by omega) (by omega) he rfl h3 hs1 hs2 hq
    · exact sym_hi N b o n c hn ih w f a m e _ hN (by omega) (by omega) he rfl (by omega) hs1 hs2 hq
end Go.Proofs.Ytboiigeomgdkjaa
