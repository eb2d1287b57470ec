/-
  The walk of the law FnPatternNone. For every input.
-/
import Derived.Test.YtelmpgonfcgjnaaPatWords
import Derived.Test.YtelmpgonfcgjnaaPatMore
set_option linter.unusedVariables false
namespace Go.Proofs.Ytelmpgonfcgjnaa
open Go.RowKit Go.PlainAid

set_option maxHeartbeats 4000000 in
theorem walkFnPatternNone (w : World)  (id : Int) (wi : (Lit.int .u64 id).wf = true) :
    Calls Try.prog 9 #[.int .u64 id] w fun e w' => e = .returned (.bool true) ∧ Below w.heap.size w w' := by
  obtain ⟨N, rfl, hN⟩ := id_nat wi
  clear wi
  have HB0 := Lib.hid (Below.refl w.heap.size w)
  go_enter Try.func9, Try.ntmps9
  go_wp2_with fail
  refine (judge_any ⟨#[]⟩ (N : Int) _ (by decide)).mono ?_
  rintro e w1 ⟨rfl, h5⟩
  have HB1 := Lib.hid (HB0.out.trans (h5.mono HB0.out.size))
  clear h5 HB0
  rw [show judge (L ⟨#[]⟩) (N : Int) = ⟨true, true, true, false, false⟩ from rfl, Verd.V]
  go_wp2
  go_ret
  exact ⟨rfl, HB1.out.alloc HB1.out.size _⟩
end Go.Proofs.Ytelmpgonfcgjnaa
