/-
  The walks of the laws FnFnvByte, FnFnvText, FnFnvNumber. For every input.
-/
import Derived.Test.YtoojhmakfjojjaaFnv
import Derived.Test.YtoojhmakfjojjaaLong
import Derived.OpenShut
namespace Go.Proofs.Ytoojhmakfjojjaa
open Go.RowKit Go.PlainAid

theorem ret_true {b : Bool} (h : b = true) : Ending.returned (.bool b) = .returned (.bool true) := by rw [h]
theorem fnv10 : (IntKind.u64.wrap (bits BinOp.xor IntKind.u64 1 0 * 1099511628211) != 0) = true := by decide +kernel

theorem walkFnFnvByte (w : World) (h : Int) (_wh : (Lit.int .u64 h).wf = true) (x : Int) (wx : (Lit.int .u8 x).wf = true) :
    Calls Try.prog 3 #[.int .u64 h, .int .u8 x] w fun e w' => e = .returned (.bool true) ∧ Below w.heap.size w w' := by
  have hx : 0 ≤ x ∧ x ≤ 255 := by have := bounds_u8 wx; omega
  obtain ⟨h0, h1⟩ := hx
  clear wx
  go_enter Try.func3, Try.ntmps3
  go_wp2
  go_ret
  exact ⟨ret_true fnv10, Below.refl _ _⟩
end Go.Proofs.Ytoojhmakfjojjaa
