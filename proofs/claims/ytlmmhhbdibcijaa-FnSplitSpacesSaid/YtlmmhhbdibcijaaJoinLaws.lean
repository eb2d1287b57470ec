/-
  The walks of the laws FnJoinSplit and FnJoinRefuses. For every input.
-/
import Derived.Test.YtlmmhhbdibcijaaJoinImpl
import Derived.Test.YtlmmhhbdibcijaaSplitLaws
namespace Go.Proofs.Ytlmmhhbdibcijaa
open Go.RowKit Go.PlainAid

theorem joinable_both {ss : List Bs} (h : joinable ss = true) : ss.any both = false := by
  rw [List.any_eq_false]; intro x hx
  unfold joinable at h; rw [List.all_eq_true] at h
  have := h x hx; simp at this; simp [this.2]
theorem tot_tot1 (ss : List Bs) : tot ss ≤ 3 * tot1 ss := by
  induction ss with
  | nil => simp [tot, tot1]
  | cons a l ih => simp only [tot, tot1, List.map_cons, List.sum_cons] at *; omega
theorem len_tot1 (ss : List Bs) : ss.length ≤ tot1 ss := by
  induction ss with
  | nil => simp
  | cons a l ih => simp only [tot1, List.map_cons, List.sum_cons, List.length_cons] at *; omega

theorem walkFnJoinSplit (w : World) (a : Option Addr) (len cap : Nat) (z : List ByteArray) (l : z.length = len) (c : len ≤ cap) (m : cap ≤ maxLen) (f : ∀ s ∈ z, s.size ≤ maxLen) (g : Arg w w.heap.size 1 a len (z.map Value.string)) :
    Calls Try.prog 12 #[.slice a len cap] w fun e w' => e = .returned (.bool true) ∧ Below w.heap.size w w' := by
  have g1 := arg_L g
  have f1 : ∀ s ∈ z.map L, s.length ≤ maxLen := fun s hs => by
    obtain ⟨t, ht, rfl⟩ := List.mem_map.1 hs; rw [L_len]; exact f t ht
  have l1 : (z.map L).length = len := by simpa using l
  generalize z.map L = ss at *
  subst l1
  have hm : ss.length ≤ maxLen := Nat.le_trans c m
  have HA := Lib.hid g1
  have HF := Lib.hid f1
  clear g g1 f f1 l c m
  go_enter Try.func12, Try.ntmps12
  go_wp2_with fail
  refine (fits3_any a cap ss _ _ HA.out hm HF.out).mono ?_
  rintro e w1 ⟨b, rfl, rfl, hfit⟩
  cases b with
  | false =>
    clear hfit
    go_wp2
    go_ret
    exact ⟨rfl, Below.refl _ _⟩
  | true =>
    obtain ⟨hl, hs⟩ := hfit rfl
    have HS := Lib.hid hs
    clear hfit hs hm
    go_wp2_with fail
    refine (sizeOf_any a cap ss _ _ HA.out hl HS.out).mono ?_
    rintro e w1 ⟨zz, rfl, rfl, z0, z1, hz⟩
    have HZ := Lib.hid hz
    clear hz
    by_cases hzl : 1000000 < zz
    · go_wp2_with (go_at_call 15; refine (tooLong_yes1 _ _ (by omega) (by omega) (by omega)).mono ?_; rintro e w' ⟨rfl, rfl⟩)
      go_ret
      exact ⟨rfl, (Below.refl _ _).alloc (Nat.le_refl _) _⟩
    · have ht1 : tot1 ss ≤ 1000000 := HZ.out (by omega)
      have ht : tot ss ≤ 3000000 := by have := tot_tot1 ss; omega
      have HB0 := Lib.hid ((Below.refl w.heap.size w).alloc (Nat.le_refl _) (.cells #[.int .i64 zz] 3))
      go_wp2_with (go_at_call 15; refine (tooLong_no1 _ _ (by omega) (by omega)).mono ?_; rintro e w' ⟨rfl, rfl⟩)
      have HA1 : Hid (Arg (w.alloc (.cells #[.int .i64 zz] 3)) (w.alloc (.cells #[.int .i64 zz] 3)).heap.size 1 a ss.length (ss.map S)) := (HA.out.below HB0.out).more (by simp)
      cases hj : joinable ss with
      | false =>
        have HJ := Lib.hid hj
        clear hj
        refine (implJoin_free a cap ss _ HA1.out (by omega)).mono ?_
        rintro e w2 ⟨s, ok, rfl, hsz, hb2⟩
        have HB2 := Lib.hid (HB0.out.trans (hb2.mono (by simp)))
        clear hb2
        go_wp2_with fail
        refine (implSplit_free s _ (by omega)).mono ?_
        rintro e w3 ⟨v3, ok3, rfl, hb3⟩
        have HB3 := Lib.hid (HB2.out.trans (hb3.mono HB2.out.size))
        clear hb3
        go_wp2_with fail
        refine (implSplit_a _).mono ?_
        rintro e w4 ⟨v4, rfl, hr4, hb4⟩
        have HB4 := Lib.hid (HB3.out.trans (hb4.mono HB3.out.size))
        obtain ⟨a4, c4, rfl⟩ := hr4.shape
        clear hr4 hb4
        go_wp2_with fail
        refine (joinable_any a cap ss _ _ (HA.out.below HB4.out) hl HF.out).mono ?_
        rw [HJ.out]
        rintro e w5 ⟨rfl, rfl⟩
        go_wp2
        go_ret
        exact ⟨rfl, HB4.out⟩
      | true =>
        have HJ := Lib.hid hj
        clear hj
        refine (implJoin_yes a cap ss _ HA1.out (by omega) (joinable_both HJ.out)).mono ?_
        rintro e w2 ⟨rfl, hb2⟩
        have HB2 := Lib.hid (HB0.out.trans (hb2.mono (by simp)))
        clear hb2
        have HSP := Lib.hid (join_split ss HJ.out)
        have hjs : (mkB (joinGo ss)).size ≤ 2147483647 := by rw [size_mkB]; have := joinGo_len ss; omega
        have HLM : Hid (L (mkB (joinGo ss)) = joinGo ss) := L_mkB _
        generalize mkB (joinGo ss) = s at *
        go_wp2_with fail
        refine (implSplit_some s ss _ hjs (by rw [HLM.out]; exact HSP.out)).mono ?_
        rintro e w3 ⟨v3, rfl, hr3, hb3⟩
        have HB3 := Lib.hid (HB2.out.trans (hb3.mono HB2.out.size))
        have HR3 := Lib.hid hr3
        obtain ⟨a3, c3, rfl⟩ := hr3.shape
        clear hr3 hb3
        go_wp2_with fail
        refine (implSplit_a _).mono ?_
        rintro e w4 ⟨v4, rfl, hr4, hb4⟩
        have HB4 := Lib.hid (HB3.out.trans (hb4.mono HB3.out.size))
        have HR34 := Lib.hid (HR3.out.below hb4 HR3.out.blt)
        obtain ⟨a4, c4, rfl⟩ := hr4.shape
        clear hr4 hb4
        go_wp2_with fail
        refine (joinable_any a cap ss _ _ (HA.out.below HB4.out) hl HF.out).mono ?_
        rw [HJ.out]
        rintro e w5 ⟨rfl, rfl⟩
        go_wp2_with fail
        refine (sameTexts_yes _ _ _ _ _ _ ss hl HR34.out.rd (HA.out.below HB4.out).rd).mono ?_
        rintro e w6 ⟨rfl, mm, rfl⟩
        go_wp2
        go_ret
        exact ⟨rfl, below_drewN HB4.out _⟩
end Go.Proofs.Ytlmmhhbdibcijaa
