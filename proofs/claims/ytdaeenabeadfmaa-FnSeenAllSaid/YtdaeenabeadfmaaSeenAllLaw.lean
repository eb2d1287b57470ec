/-
  The walk of the law FnSeenAll. For every input.
-/
import Derived.Test.YtdaeenabeadfmaaSeenAll
import Derived.Test.YtdaeenabeadfmaaSeenLossyLaw
import Derived.Deep.QuietTactic
import Derived.BigQuiet
set_option linter.unusedVariables false
set_option maxHeartbeats 4000000
set_option maxRecDepth 100000
namespace Go.Proofs.Ytdaeenabeadfmaa
open Go.RowKit Go.PlainAid Go.Lib

theorem walkFnSeenAll (w : World) (a : Option Addr) (len cap : Nat) (xs : List Int) (hxl : xs.length = len) (hlc : len ≤ cap) (hcm : cap ≤ maxLen) (hwf : ∀ n ∈ xs, (Lit.int .u64 n).wf = true) (ha : Arg w w.heap.size 1 a len (xs.map (Value.int .u64))) :
    Calls Try.prog 4 #[.slice a len cap] w fun e w' => e = .returned (.bool true) ∧ Below w.heap.size w w' := by
  subst hxl
  unfold maxLen at hcm
  have HW := Lib.hid hwf
  have HA := Lib.hid ha
  clear ha hwf
  by_cases h1 : 2147483647 < xs.length
  · go_enter Try.func4, Try.ntmps4
    go_wp2
    go_ret
    exact ⟨rfl, Below.refl _ _⟩
  by_cases h2 : 1000000 < xs.length
  · go_enter Try.func4, Try.ntmps4
    go_wp2_with (go_at_call 5; refine (tooLong_yes1 _ _ (by omega) (by omega) (by omega)).mono ?_; rintro e w' ⟨rfl, rfl⟩)
    go_ret
    exact ⟨rfl, (Below.refl _ _).alloc (Nat.le_refl _) _⟩
  have HB0 := Lib.hid ((Below.refl w.heap.size w).alloc (Nat.le_refl _) (.cells #[.int .i64 (xs.length : Int)] 3))
  go_enter Try.func4, Try.ntmps4
  go_wp2_with (go_at_call 5; refine (tooLong_no1 _ _ (by omega) (by omega)).mono ?_; rintro e w' ⟨rfl, rfl⟩)
  refine (seenAll_any a cap xs _ ((HA.out.below HB0.out).more HB0.out.size) (by omega) HW.out).mono ?_
  rintro e w2 ⟨v, rfl, hr, hb⟩
  have HB2 := Lib.hid (HB0.out.trans (hb.mono HB0.out.size))
  have HR2 := Lib.hid hr
  obtain ⟨va, vc, rfl⟩ := hr.shape
  have hcall := fun W => seenAll_any (some ⟨W.heap.size, 0, none⟩) 1 [1] _ (arg_lit W 26) (by simp) (by intro x hx; simp at hx; subst hx; rfl)
  clear hr hb
  go_wp2_with fail
  refine (hcall _).mono ?_
  clear hcall
  rintro e w3 ⟨v1, rfl, hr1, hb1⟩
  have HB3 := Lib.hid ((HB2.out.alloc HB2.out.size _).trans (hb1.mono (by have := HB2.out.size; simp; omega)))
  have HR3 := Lib.hid ((HR2.out.alloc (.cells #[.int .u64 1] 26)).below hb1 (fun g hg => by have := HR2.out.blt g hg; simp; omega))
  obtain ⟨va1, vc1, rfl⟩ : ∃ va1 vc1, v1 = .slice va1 1 vc1 := hr1.shape
  clear hr1 hb1
  go_wp2_with fail
  go_loopw [28] (fun iv wr => ∃ k m : Nat, iv = .int .i64 k ∧ k ≤ xs.length ∧ wr = w3.drewN m) (fun iv _ => xs.length - (intOf iv).toNat)
  case atStart => exact ⟨0, 0, rfl, Nat.zero_le _, rfl⟩
  case round =>
    obtain ⟨k, m, rfl, hk, hwr⟩ := hrel
    by_cases hlt : k < xs.length
    · obtain ⟨b, o, hae, hb, hx⟩ := (HA.out.below HB3.out).at_ (by omega)
      subst hae
      have hcs : ∀ W : World, (∃ m, W = w3.drewN m) → ∀ j, j < xs.length → W.cell? ⟨b, o + j, none⟩ = some (.int .u64 (xs.getD j 0)) := fun W hW j hj => by
        obtain ⟨m, rfl⟩ := hW
        refine (show (w3.drewN m).cell? ⟨b, o + j, none⟩ = w3.cell? ⟨b, o + j, none⟩ from rfl).trans ?_
        rw [hx j (by omega), List.getElem?_map, List.getD, List.getElem?_eq_getElem hj]; rfl
      have c0 := hcs wr ⟨m, hwr⟩ k hlt
      have hE := fun n => (earlier_any (wr.drewN n) b o cap xs k hk (by omega) (xs.getD k 0) (hcs _ ⟨m + n, by rw [hwr, World.drewN_drewN]⟩)).mono (R' := fun e w' => e = .returned (.bool (decide (xs.getD k 0 ∈ xs.take k))) ∧ w' = wr.drewN n) (fun _ _ h => ⟨h.1, h.2.symm⟩)
      obtain ⟨g2, o2, cap2, e2, _, _, _, _, hx2⟩ := HR3.out.at_ (by omega) (by omega)
      injection e2 with e2 _ e3
      subst e2 e3
      have d0 : wr.cell? ⟨g2, o2 + k, none⟩ = some (.bool (decide (xs.getD k 0 ∈ xs.take k))) := by
        rw [hwr]
        exact (hx2 k (by omega)).trans (outL_at xs _ k hlt)
      have hsl := fun w' => nums_head w' b o xs.length cap k (by omega) (by omega)
      have HWR := Lib.hid hwr
      obtain ⟨h, hh⟩ : ∃ h, h = xs.getD k 0 := ⟨_, rfl⟩
      rw [← hh] at hE c0 d0
      generalize decide (h ∈ xs.take k) = B at *
      have hi0 : (0 : Int) ≤ (k : Int) := by omega
      have hi1 : (k : Int) < (xs.length : Int) := by omega
      have HE := Lib.hid hE
      clear hx hx2 hcs hh hwr hE
      go_wp2_with fail
      go_quiet ((go_at_call 7; exact Calls.quiet_of_same (HE.out _)))
      go_wp2_with fail
      go_roundw
      case rel => exact ⟨k + 1, m + nq, by go_num, by omega, by rw [HWR.out, World.drewN_drewN]⟩
      case measure => simp [intOf]; omega
    · go_wp2
      go_ret
      exact ⟨rfl, below_drewN HB3.out _⟩
end Go.Proofs.Ytdaeenabeadfmaa
