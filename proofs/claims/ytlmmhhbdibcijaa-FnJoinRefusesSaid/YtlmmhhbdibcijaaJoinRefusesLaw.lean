/-
  The walk of the law FnJoinRefuses. For every input.
-/
import Derived.Test.YtlmmhhbdibcijaaJoinLaws
namespace Go.Proofs.Ytlmmhhbdibcijaa
open Go.RowKit Go.PlainAid

theorem any_take (ss : List Bs) (k : Nat) (h : k < ss.length) : (ss.take (k + 1)).any both = ((ss.take k).any both || both ss[k]) := by
  rw [List.take_succ_eq_append_getElem h, List.any_append]; simp

theorem walkFnJoinRefuses (w : World) (a : Option Addr) (len cap : Nat) (z : List ByteArray) (l : z.length = len) (c : len ≤ cap) (m : cap ≤ maxLen) (f : ∀ s ∈ z, s.size ≤ maxLen) (g : Arg w w.heap.size 1 a len (z.map Value.string)) :
    Calls Try.prog 9 #[.slice a len cap] w fun e w' => e = .returned (.bool true) ∧ Below w.heap.size w w' := by
  have g1 := arg_L g
  have f1 : ∀ s ∈ z.map L, s.length ≤ maxLen := fun s hs => by
    obtain ⟨t, ht, rfl⟩ := List.mem_map.1 hs; rw [L_len]; exact f t ht
  have l1 : (z.map L).length = len := by simpa using l
  generalize z.map L = ss at *
  subst l1
  have hm : ss.length ≤ maxLen := Nat.le_trans c m
  have HA := Lib.hid g1
  have HF := Lib.hid f1
  clear g g1 f f1 l c m
  go_enter Try.func9, Try.ntmps9
  go_wp2_with fail
  refine (fits3_any a cap ss _ _ HA.out hm HF.out).mono ?_
  rintro e w1 ⟨b, rfl, rfl, hfit⟩
  cases b with
  | false =>
    clear hfit
    go_wp2
    go_ret
    exact ⟨rfl, Below.refl _ _⟩
  | true =>
    obtain ⟨hl, hs⟩ := hfit rfl
    have HS := Lib.hid hs
    clear hfit hs hm
    go_wp2_with fail
    refine (sizeOf_any a cap ss _ _ HA.out hl HS.out).mono ?_
    rintro e w1 ⟨zz, rfl, rfl, z0, z1, hz⟩
    have HZ := Lib.hid hz
    clear hz
    by_cases hzl : 1000000 < zz
    · go_wp2_with (go_at_call 15; refine (tooLong_yes1 _ _ (by omega) (by omega) (by omega)).mono ?_; rintro e w' ⟨rfl, rfl⟩)
      go_ret
      exact ⟨rfl, (Below.refl _ _).alloc (Nat.le_refl _) _⟩
    · have ht1 : tot1 ss ≤ 1000000 := HZ.out (by omega)
      have ht : tot ss ≤ 3000000 := by have := tot_tot1 ss; omega
      have HB0 := Lib.hid ((Below.refl w.heap.size w).alloc (Nat.le_refl _) (.cells #[.int .i64 zz] 3))
      have HA1 : Hid (Arg (w.alloc (.cells #[.int .i64 zz] 3)) (w.alloc (.cells #[.int .i64 zz] 3)).heap.size 1 a ss.length (ss.map S)) := (HA.out.below HB0.out).more (by simp)
      go_wp2_with (go_at_call 15; refine (tooLong_no1 _ _ (by omega) (by omega)).mono ?_; rintro e w' ⟨rfl, rfl⟩)
      have hcell := HA1.out
      have HC := Lib.hid hcell
      clear hcell
      go_loop [3, 19] (fun bv iv => ∃ (k : Nat) (b : Bool), iv = .int .i64 k ∧ k ≤ ss.length ∧ bv = .bool b ∧ Hid (b = (ss.take k).any both)) (fun _ iv => ss.length - (intOf iv).toNat)
      case atStart => exact ⟨0, false, rfl, Nat.zero_le _, rfl, rfl⟩
      case round =>
        obtain ⟨k, b, rfl, hk, rfl, HB⟩ := hrel
        by_cases hlt : k < ss.length
        · obtain ⟨bb, oo, rfl, hbb, hc⟩ := HC.out.cell hlt
          have HM : Hid ((mkB ss[k]).size ≤ maxLen) := by show _ ≤ _; rw [size_mkB]; exact HF.out _ (List.getElem_mem _)
          have HL : Hid (L (mkB ss[k]) = ss[k]) := L_mkB _
          have HT := Lib.hid (any_take ss k hlt)
          generalize mkB ss[k] = s at *
          cases b with
          | true =>
            go_wp2
            go_round
            case rel => exact ⟨k + 1, _, by go_num, by omega, rfl, by show _ = _; rw [HT.out, ← HB.out]; rfl⟩
            case measure => simp [intOf]; omega
          | false =>
            go_wp2_with (go_at_call 24; refine (both_any _ _ HM.out).mono ?_; rintro e w' ⟨rfl, rfl⟩)
            go_round
            case rel => exact ⟨k + 1, _, by go_num, by omega, rfl, by show _ = _; rw [HT.out, ← HB.out, HL.out]; rfl⟩
            case measure => simp [intOf]; omega
        · have hB := HB.out
          rw [List.take_of_length_le (by omega)] at hB
          have HB2 := Lib.hid hB
          clear hB HB
          cases b with
          | true =>
            go_wp2_with fail
            refine (implJoin_no a cap ss _ HA1.out (by omega) HB2.out.symm).mono ?_
            rintro e w2 ⟨rfl, hb2⟩
            have HBB := Lib.hid (HB0.out.trans (hb2.mono (by simp)))
            clear hb2
            go_wp2_with fail
            refine (implJoin_a _ _).mono ?_
            rintro e w3 ⟨rfl, hb3⟩
            have HBC := Lib.hid (HBB.out.trans (hb3.mono HBB.out.size))
            clear hb3
            go_wp2
            go_ret
            exact ⟨rfl, HBC.out⟩
          | false =>
            go_wp2_with fail
            refine (implJoin_yes a cap ss _ HA1.out (by omega) HB2.out.symm).mono ?_
            rintro e w2 ⟨rfl, hb2⟩
            have HBB := Lib.hid (HB0.out.trans (hb2.mono (by simp)))
            clear hb2
            go_wp2_with fail
            refine (implJoin_a _ _).mono ?_
            rintro e w3 ⟨rfl, hb3⟩
            have HBC := Lib.hid (HBB.out.trans (hb3.mono HBB.out.size))
            clear hb3
            go_wp2
            go_ret
            exact ⟨rfl, HBC.out⟩
end Go.Proofs.Ytlmmhhbdibcijaa
