/-
  The walk of the law FnPatternAll. For every input.
-/
import Derived.Test.YtelmpgonfcgjnaaPatWords
import Derived.Test.YtelmpgonfcgjnaaPatMore
set_option linter.unusedVariables false
namespace Go.Proofs.Ytelmpgonfcgjnaa
open Go.RowKit Go.PlainAid

theorem judge_yn (N : Nat) (hN : N < 18446744073709551616) : judge [110] (N : Int) = ⟨true, false, false, true, true⟩ ∧ judge [33, 121] (N : Int) = ⟨true, false, false, true, true⟩ := by
  have h : ReadTerms [121] false [([121], true)] := .inr (.inr ⟨rfl, .last (.inl rfl)⟩)
  have e1 := judge_read (s := [110]) (p := ⟨true, false, false, [([121], true)]⟩) (.inr ⟨rfl, .inl ⟨rfl, rfl, rfl, rfl⟩⟩) N hN
  have e2 := judge_read (s := [33, 121]) (p := ⟨true, false, false, [([121], true)]⟩) (.inr ⟨rfl, .inr (.inl ⟨_, rfl, rfl, h⟩)⟩) N hN
  rw [e1, e2]
  simp [holdsTo, endsB_y]
set_option maxHeartbeats 4000000 in
theorem walkFnPatternAll (w : World)  (id : Int) (wi : (Lit.int .u64 id).wf = true) :
    Calls Try.prog 4 #[.int .u64 id] w fun e w' => e = .returned (.bool true) ∧ Below w.heap.size w w' := by
  obtain ⟨N, rfl, hN⟩ := id_nat wi
  clear wi
  have HB0 := Lib.hid (Below.refl w.heap.size w)
  obtain ⟨j1, j2⟩ := judge_yn N hN
  have J1 := Lib.hid j1
  have J2 := Lib.hid j2
  clear j1 j2
  go_enter Try.func4, Try.ntmps4
  go_wp2_with fail
  refine (judge_any ⟨#[121]⟩ (N : Int) _ (by decide)).mono ?_
  rintro e w1 ⟨rfl, h5⟩
  have HB1 := Lib.hid (HB0.out.trans (h5.mono HB0.out.size))
  clear h5 HB0
  rw [show L ⟨#[121]⟩ = [121] from rfl, judge_y, Verd.V]
  go_wp2_with fail
  refine (judge_any ⟨#[110]⟩ (N : Int) _ (by decide)).mono ?_
  rintro e w2 ⟨rfl, h5⟩
  have HB2 := Lib.hid (HB1.out.trans (h5.mono HB1.out.size))
  clear h5 HB1
  rw [show L ⟨#[110]⟩ = [110] from rfl, J1.out, Verd.V]
  go_wp2_with fail
  refine (judge_any ⟨#[33, 121]⟩ (N : Int) _ (by decide)).mono ?_
  rintro e w3 ⟨rfl, h5⟩
  have HB3 := Lib.hid (HB2.out.trans (h5.mono HB2.out.size))
  clear h5 HB2
  rw [show L ⟨#[33, 121]⟩ = [33, 121] from rfl, J2.out, Verd.V]
  go_wp2
  go_ret
  exact ⟨rfl, ((HB3.out.alloc HB3.out.size _).alloc (by simp; exact Nat.le_succ_of_le HB3.out.size) _).alloc (by simp; exact Nat.le_succ_of_le (Nat.le_succ_of_le HB3.out.size)) _⟩
end Go.Proofs.Ytelmpgonfcgjnaa
