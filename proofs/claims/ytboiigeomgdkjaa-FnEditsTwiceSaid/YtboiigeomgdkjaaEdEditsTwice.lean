/-
  The walk of the law FnEditsTwice. For every input.
-/
import Derived.Test.YtboiigeomgdkjaaApartPlain
set_option linter.unusedVariables false
set_option maxHeartbeats 4000000
set_option maxRecDepth 100000
namespace Go.Proofs.Ytboiigeomgdkjaa
open Go.RowKit Go.PlainAid Go.Lib

theorem stepCells_one (l : List St) : ∀ u ∈ stepCells l, u.oneCell' = true := by
  intro u hu
  unfold stepCells at hu
  obtain ⟨z, _, hz⟩ := List.mem_flatMap.1 hu
  exact stC_one z u hz
theorem src_steps {w : World} {B : Nat} {a : Option Addr} {ss : List St} (h : Arg w B 3 a ss.length (stepCells ss)) (c : Nat) : Src Try.prog 3 27 (.slice a ss.length c) ss.length (stepCells ss) w := by
  rcases Nat.eq_zero_or_pos ss.length with h0 | h0
  · have e : ss = [] := List.eq_nil_of_length_eq_zero h0
    subst e
    cases a with
    | none => exact Src.ofNil w Try.underlying27 c
    | some ad => exact Src.ofSlice w Try.underlying27 ad 0 c [] rfl (fun j u hu => by simp at hu) (fun u hu => by simp at hu)
  · obtain ⟨b, o, rfl, _, hc⟩ := h.2 h0
    refine Src.ofSlice w Try.underlying27 ⟨b, o, none⟩ _ c _ (stepCells_len ss) (fun j u hu => ?_) (stepCells_one ss)
    have hj : j < ss.length * 3 := by
      have := (List.getElem?_eq_some_iff.1 hu).1
      rwa [stepCells_len] at this
    rw [Addr.add_lit, hc j hj, hu]
theorem row_steps {w : World} {B n c : Nat} {a : Option Addr} {l : List St} (h : Row w B 3 (.slice a n c) n (stepCells l)) (hn : n = l.length) : Arg w w.heap.size 3 a l.length (stepCells l) := by
  subst hn
  refine ⟨stepCells_len l, fun h0 => ?_⟩
  obtain ⟨g, o, cap, e, _, hlt, _, _, hx⟩ := h.at_ h0 (by omega)
  simp only [Value.slice.injEq] at e
  exact ⟨g, o, e.1, hlt, hx⟩
theorem row_cap {w : World} {B n c : Nat} {a : Option Addr} {xs : List Value} (h : Row w B 3 (.slice a n c) n xs) : n ≤ c ∧ c ≤ maxLen := by
  obtain ⟨_, _, ao, cap, e, h1, h2, _⟩ := h
  injection e with _ _ e
  subst e
  exact ⟨h1, h2⟩
theorem app_len {s1 s2 al : List St} (h : al = s1 ++ s2) : s1.length + s2.length = al.length := by rw [h]; simp
theorem row_new0 (w : World) (T : TypeId) : Row (w.alloc (.cells #[] T)) w.heap.size 3 (.slice (some ⟨w.heap.size, 0, none⟩) 0 0) 0 [] := Row.own (World.ownsRow_made (e := T) w #[] 0 (Nat.le_refl _) (by simp [maxLen]) rfl)
theorem good_txt2 {d : ByteArray} {ss : List St} {T : Bs} (hd : d.size ≤ 4294967296) (hl : ss.length ≤ 2000000) (hin : ∀ z ∈ ss, inN d.size z) (hM : ∀ z ∈ ss, z.2.2.size ≤ 1000000) (h : Txt d ss T) : Good d ss T :=
  ⟨hd, by omega, hin, ⟨1000000, hM, by omega⟩, fun g hg => h g hg.1 (srtE_le hg.2.1)⟩
theorem good_twice2 {d : ByteArray} {s1 s2 al : List St} {T : Bs} (hal : al = s1 ++ s2) (hd : d.size ≤ 4294967296) (hl : al.length ≤ 2000000) (hin : ∀ z ∈ al, inN d.size z) (hM : ∀ z ∈ al, z.2.2.size ≤ 1000000) (h : Txt d al T) (g : Nat → St) (hg : Sd ltE 0 s1.length (fnl s1) g) : Good d (tab g s1.length ++ s2) T := by
  subst hal
  have h1 : (tab g s1.length).length = s1.length := tab_len _ _
  have hm := mv_app s2 h1 (by rw [fnl_tab_mv hg.1]; exact hg.1)
  have hln : (tab g s1.length ++ s2).length = (s1 ++ s2).length := by rw [List.length_append, List.length_append, h1]
  exact good_txt2 hd (by omega) (mem_mv hln hm hin) (mem_mv hln hm hM) (txt_mv hln hm h)

theorem walkFnEditsTwice (w : World) (d : ByteArray) (wd : d.size ≤ maxLen) (a1 : Option Addr) (len1 cap1 : Nat) (s1 : List St) (hsl1 : s1.length = len1) (hlc1 : len1 ≤ cap1) (hcm1 : cap1 ≤ maxLen) (hwf1 : ∀ z ∈ s1, stWf z) (ha1 : Arg w w.heap.size 3 a1 len1 (stepCells s1))
    (a2 : Option Addr) (len2 cap2 : Nat) (s2 : List St) (hsl2 : s2.length = len2) (hlc2 : len2 ≤ cap2) (hcm2 : cap2 ≤ maxLen) (hwf2 : ∀ z ∈ s2, stWf z) (ha2 : Arg w w.heap.size 3 a2 len2 (stepCells s2)) :
    Calls Try.prog 12 #[.string d, .slice a1 len1 cap1, .slice a2 len2 cap2] w fun e w' => e = .returned (.bool true) ∧ Below w.heap.size w w' := by
  subst hsl1 hsl2
  unfold maxLen at wd hcm1 hcm2
  obtain ⟨i0, hi, hz0, hz1, hz2⟩ := info_parts infoStep
  have HW1 : Hid (∀ z ∈ s1, z.2.2.size ≤ 9223372036854775807) := fun z hz => by have := (hwf1 z hz).2.2; unfold maxLen at this; omega
  have HW2 : Hid (∀ z ∈ s2, z.2.2.size ≤ 9223372036854775807) := fun z hz => by have := (hwf2 z hz).2.2; unfold maxLen at this; omega
  have HA1 := Lib.hid ha1
  have HA2 := Lib.hid ha2
  clear ha1 ha2 hwf1 hwf2
  by_cases h1 : 2147483647 < d.size
  · go_enter Try.func12, Try.ntmps12
    go_wp2
    go_ret
    exact ⟨rfl, Below.refl _ _⟩
  go_enter Try.func12, Try.ntmps12
  go_wp2_with fail
  refine (fits1_any a1 cap1 s1 w HA1.out (by omega)).mono ?_
  rintro e w1 ⟨bb, rfl, _, hb1⟩
  have HB1 := Lib.hid hb1
  clear hb1
  cases bb with
  | false =>
    go_wp2_with fail
    go_ret
    exact ⟨rfl, HB1.out⟩
  | true =>
  go_wp2_with fail
  refine (fits1_any a2 cap2 s2 _ ((HA2.out.below HB1.out).more HB1.out.size) (by omega)).mono ?_
  rintro e w2 ⟨bb, rfl, _, hb2⟩
  have HB2 := Lib.hid (HB1.out.trans (hb2.mono HB1.out.size))
  clear hb2
  cases bb with
  | false =>
    go_wp2_with fail
    go_ret
    exact ⟨rfl, HB2.out⟩
  | true =>
  go_wp2_with fail
  refine (sizeOfSteps_any a1 cap1 s1 _ ((HA1.out.below HB2.out).more HB2.out.size) (by omega) HW1.out).mono ?_
  rintro e w3 ⟨n1, rfl, hn1, hm1, hb3⟩
  have HB3 := Lib.hid (HB2.out.trans (hb3.mono HB2.out.size))
  have HS1 := Lib.hid hm1
  clear hb3 hm1
  go_wp2_with fail
  refine (sizeOfSteps_any a2 cap2 s2 _ ((HA2.out.below HB3.out).more HB3.out.size) (by omega) HW2.out).mono ?_
  rintro e w4 ⟨n2, rfl, hn2, hm2, hb4⟩
  have HB4 := Lib.hid (HB3.out.trans (hb4.mono HB3.out.size))
  have HS2 := Lib.hid hm2
  clear hb4 hm2
  by_cases h2 : 1000000 < d.size + n1 + n2
  · go_wp2_with (go_at_call 13; refine (tooLong_yes3 _ _ _ _ (by omega) (by omega) (by omega) (by omega) (by omega) (by omega) (by omega)).mono ?_; rintro e w' ⟨rfl, rfl⟩)
    go_ret
    exact ⟨rfl, HB4.out.alloc HB4.out.size _⟩
  have HZ1 := Lib.hid (HS1.out (by omega))
  have HZ2 := Lib.hid (HS2.out (by omega))
  have hs1 : s1.length ≤ 1000000 := HZ1.out.1
  have hs2 : s2.length ≤ 1000000 := HZ2.out.1
  obtain ⟨W5, hW5⟩ : ∃ W5 : World, W5 = w4.alloc (.cells #[.int .i64 (d.size : Int), .int .i64 (n1 : Int), .int .i64 (n2 : Int)] 3) := ⟨_, rfl⟩
  have HB5 : Hid (Below w.heap.size w W5) := by rw [hW5]; exact HB4.out.alloc HB4.out.size _
  have hcall := tooLong_no3 w4 (d.size : Int) (n1 : Int) (n2 : Int) (by omega) (by omega) (by omega) (by omega)
  rw [← hW5] at hcall
  have HW5 := Lib.hid hW5
  clear hW5
  have m1 : 0 + s1.length ≤ maxLen := by unfold maxLen; omega
  have m2 : (0 + s1.length) * 32 ≤ 140737488355328 := by omega
  have m3 : s1.length + s2.length ≤ maxLen := by unfold maxLen; omega
  have m4 : (s1.length + s2.length) * 32 ≤ 140737488355328 := by omega
  have hbs := HB5.out.size
  have HR0 := Lib.hid (row_new0 W5 33)
  have HB6 := Lib.hid (HB5.out.alloc HB5.out.size (.cells #[] 33))
  have HSR1 := Lib.hid (src_steps (HA1.out.below HB6.out) cap1)
  go_wp2_with fail
  rw [← HW5.out]
  refine hcall.mono ?_
  rintro e w' ⟨rfl, rfl⟩
  clear hcall
  have hmc : Hid (∀ n c : Nat, n = s1.length + s2.length → n ≤ 2000000) := fun n c h => by omega
  go_wp2_with (first | (at_builtin; refine wpList_append_row _ rfl (.tmp 32) (.tmp 33) 27 27 rfl W5.heap.size 33 i0 _ 3 32 Try.underlying27 hi hz0 hz1 hz2 rfl (.slice (some ⟨W5.heap.size, 0, none⟩) 0 0) 0 [] HR0.out rfl (.slice a1 s1.length cap1) s1.length (stepCells s1) HSR1.out rfl m1 m2 (by simp) ?_; intro v6 w6 k1 k2 k3; obtain ⟨b6, c6, rfl⟩ := k1.shape; rw [Nat.zero_add] at k1 ⊢; have K1 := Lib.hid k1; have HB7 := Lib.hid (HB6.out.grown k2 HB6.out.size (fun g hg => Nat.le_trans hbs (HR0.out.blk g hg))); have HSR2 := Lib.hid (src_steps (HA2.out.below HB7.out) cap2); have hw6 : W5.heap.size ≤ w6.heap.size := Nat.le_trans (by simp) k2.size; clear k1 k2 k3) | (at_builtin; refine wpList_append_row _ rfl (.tmp 34) (.tmp 35) 27 27 rfl W5.heap.size 33 i0 _ 3 32 Try.underlying27 hi hz0 hz1 hz2 rfl (.slice b6 s1.length c6) s1.length ([] ++ stepCells s1) K1.out rfl (.slice a2 s2.length cap2) s2.length (stepCells s2) HSR2.out rfl m3 m4 hw6 ?_; intro v7 w7 j1 j2 j3; obtain ⟨b7, c7, rfl⟩ := j1.shape; obtain ⟨al, hal⟩ : ∃ al, al = s1 ++ s2 := ⟨_, rfl⟩; have hln : s1.length + s2.length = al.length := app_len hal; rw [hln] at j1 ⊢; have J1 := Lib.hid j1; have HAL := Lib.hid hal; have HLN := Lib.hid hln; have HB8 := Lib.hid (HB7.out.grown j2 HB7.out.size (fun g hg => Nat.le_trans hbs (K1.out.blk g hg))); clear j1 j2 j3 hal hln))
  have HAA : Hid (Arg w7 w7.heap.size 3 b7 al.length (stepCells al)) := by
    refine row_steps (n := al.length) (c := c7) (B := W5.heap.size) ?_ rfl
    have := J1.out
    rwa [List.nil_append, ← stepCells_append, ← HAL.out] at this
  have hcap := row_cap J1.out
  have hall : al.length ≤ 2000000 := by have := HLN.out; omega
  have hcc : c7 ≤ 9223372036854775807 := by have := hcap.2; unfold maxLen at this; omega
  have hcl := hcap.1
  clear hcap
  refine (apart_any b7 c7 al d.size w7 HAA.out hcl hcc).mono ?_
  rintro e w8 ⟨bb, rfl, hbb, hb9⟩
  have HB9 := Lib.hid (HB8.out.trans (hb9.mono HB8.out.size))
  have HAA8 := Lib.hid ((HAA.out.below hb9).more hb9.size)
  clear hb9
  cases bb with
  | false =>
    have hed := fun W => edited_any W ⟨#[97]⟩ [] none 0 (arg_nil W) _ (good_nil ⟨#[97]⟩ (by decide))
    rw [mkB_L] at hed
    go_wp2_with fail
    refine (hed _).mono ?_
    rintro e w9 ⟨rfl, hb⟩
    have HB10 := Lib.hid (HB9.out.trans (hb.mono HB9.out.size))
    clear hb hed
    go_wp2_with fail
    go_ret
    exact ⟨rfl, HB10.out⟩
  | true =>
  have HP := Lib.hid (hbb rfl)
  clear hbb
  have HP1 : Hid (Aprt s1 d.size) := by have := HP.out; rw [HAL.out] at this; exact aprt_left this
  have HMA : Hid (∀ z ∈ al, z.2.2.size ≤ 1000000) := fun z hz => by
    rw [HAL.out] at hz
    rcases List.mem_append.1 hz with h | h
    · exact HZ1.out.2 z h
    · exact HZ2.out.2 z h
  obtain ⟨T1, hT1⟩ := aprt_text HP1.out
  obtain ⟨T2, hT2⟩ := aprt_text HP.out
  have HT1 := Lib.hid hT1
  have HT2 := Lib.hid hT2
  clear hT1 hT2
  have hd : d.size ≤ 4294967296 := by omega
  have htw := editedTwice_any w8 d s1 s2 a1 a2 cap1 cap2 ((HA1.out.below HB9.out).more HB9.out.size) ((HA2.out.below HB9.out).more HB9.out.size) T1 T2 (good_txt2 hd (by omega) HP1.out.1 HZ1.out.2 HT1.out) (fun g hg => good_twice2 HAL.out hd hall HP.out.1 HMA.out HT2.out g hg)
  go_wp2_with fail
  refine htw.mono ?_
  clear htw
  rintro e w9 ⟨rfl, hb⟩
  have HB10 := Lib.hid (HB9.out.trans (hb.mono HB9.out.size))
  have HAA9 := Lib.hid ((HAA8.out.below hb).more hb.size)
  clear hb
  go_wp2_with fail
  refine (applied_any a1 cap1 s1 d T1 _ ((HA1.out.below HB10.out).more HB10.out.size) (by omega) hd HP1.out.1 1000000 HZ1.out.2 (by omega) HT1.out).mono ?_
  rintro e w10 ⟨rfl, hb⟩
  have HB11 := Lib.hid (HB10.out.trans (hb.mono HB10.out.size))
  have HAA10 := Lib.hid ((HAA9.out.below hb).more hb.size)
  clear hb
  go_wp2_with fail
  refine (applied_any b7 c7 al d T2 _ HAA10.out (by omega) hd HP.out.1 1000000 HMA.out (by omega) HT2.out).mono ?_
  rintro e w11 ⟨rfl, hb⟩
  have HB12 := Lib.hid (HB11.out.trans (hb.mono HB11.out.size))
  clear hb
  go_wp2_with fail
  go_ret
  exact ⟨rfl, HB12.out⟩
end Go.Proofs.Ytboiigeomgdkjaa
