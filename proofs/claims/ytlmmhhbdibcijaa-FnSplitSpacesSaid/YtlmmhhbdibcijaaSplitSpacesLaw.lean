/-
  The contract of spec.Mod at 4, and the walk of the law FnSplitSpaces. For every input.
-/
import Derived.Test.YtlmmhhbdibcijaaJoinLaws
import Derived.Test.YtlmmhhbdibcijaaSplitPaddedLaw
namespace Go.Proofs.Ytlmmhhbdibcijaa
open Go.RowKit Go.PlainAid

theorem tmod4 (x : Int) : x.tmod 4 = x % 4 ∨ x.tmod 4 = x % 4 - 4 := by
  rw [Int.tmod_eq_emod]
  split
  · left; simp
  · right; rfl
theorem mod4_any (x : Int) (w : World) : Calls Try.prog 20 #[.int .i64 x, .int .i64 4] w fun e w' => e = .returned (.int .i64 ((x % 4).toNat : Int)) ∧ w' = w := by
  have ht := tmod4 x
  have h0 : -4 ≤ x.tmod 4 := by omega
  have h1 : x.tmod 4 < 4 := Int.tmod_lt_of_pos x (by omega)
  have HE : Hid ((x.tmod 4 + 4) % 4 = ((x % 4).toNat : Int)) := by
    show _ = _
    omega
  clear ht
  go_enter Try.func20, Try.ntmps20
  go_wp2
  go_ret
  exact ⟨by rw [← HE.out]; rfl, rfl⟩
theorem md4 (x : Int) : ∃ m : Nat, m < 4 ∧ ∀ w, Calls Try.prog 20 #[.int .i64 x, .int .i64 4] w fun e w' => e = .returned (.int .i64 (m : Int)) ∧ w' = w :=
  ⟨(x % 4).toNat, by omega, mod4_any x⟩
def spOf : Nat → ByteArray
  | 0 => ⟨#[32]⟩
  | 1 => ⟨#[9]⟩
  | 2 => ⟨#[10]⟩
  | _ => ⟨#[13]⟩
theorem spOf_size (k : Nat) : (spOf k).size = 1 := by
  match k with
  | 0 | 1 | 2 | _ + 3 => rfl
theorem spOf_L (k : Nat) : ∃ d, L (spOf k) = [d] ∧ isSp d = true := by
  match k with
  | 0 => exact ⟨32, rfl, rfl⟩
  | 1 => exact ⟨9, rfl, rfl⟩
  | 2 => exact ⟨10, rfl, rfl⟩
  | _ + 3 => exact ⟨13, rfl, rfl⟩
theorem cell_new4 (w : World) (k : Nat) (hk : k < 4) : (w.alloc (.cells #[.string ⟨#[32]⟩, .string ⟨#[9]⟩, .string ⟨#[10]⟩, .string ⟨#[13]⟩] 9)).cell? ⟨w.heap.size, k, none⟩ = some (.string (spOf k)) := by
  rw [cell_of_row _ _ k _ _ _ (heap_alloc_new _ _)]
  match k, hk with
  | 0, _ => rfl
  | 1, _ => rfl
  | 2, _ => rfl
  | 3, _ => rfl
/-- a text that tells fs, whatever stands behind it -/
def Tells (fs : List Bs) (l : Bs) : Prop := ∀ r, splitL (l ++ r) = (splitL r).map (fs ++ ·)
theorem Tells.nil : Tells [] [] := fun r => by simp
theorem Tells.more {fs : List Bs} {l x : Bs} {d : UInt8} (h : Tells fs l) (hx : x ≠ []) (hb : both x = false) (hd : isSp d = true) : Tells (fs ++ [x]) (l ++ (quoteL x ++ [d])) := fun r => by
  rw [List.append_assoc, h, List.append_assoc, show ([d] ++ r) = d :: r from rfl, quoteL_split x _ hx hb (.inr ⟨d, _, rfl, hd⟩), splitL_sp d r hd]
  cases splitL r <;> simp
theorem Tells.all {fs : List Bs} {l : Bs} (h : Tells fs l) : splitL l = some fs := by
  have := h []
  rw [List.append_nil, splitL_nil] at this
  simpa using this
theorem Tells.step {ss : List Bs} {k : Nat} {s wd d : ByteArray} (hk : k < ss.length) (h : Tells (ss.take k) (L s)) (hx : ss[k] ≠ []) (hb : both ss[k] = false) (hw : L wd = quoteL ss[k]) (hd : ∃ c, L d = [c] ∧ isSp c = true) :
    Tells (ss.take (k + 1)) (L (s ++ (wd ++ d))) := by
  obtain ⟨c, hc, hs⟩ := hd
  rw [L_append, L_append, hw, hc, List.take_succ_eq_append_getElem hk]
  exact h.more hx hb hs

set_option maxRecDepth 100000 in
set_option maxHeartbeats 2000000 in
theorem walkFnSplitSpaces (w : World) (a : Option Addr) (len cap : Nat) (z : List ByteArray) (l : z.length = len) (c : len ≤ cap) (m : cap ≤ maxLen) (f : ∀ s ∈ z, s.size ≤ maxLen) (g : Arg w w.heap.size 1 a len (z.map Value.string))
    (a' : Option Addr) (len' cap' : Nat) (z' : List Int) (l' : z'.length = len') (c' : len' ≤ cap') (m' : cap' ≤ maxLen) (_f' : ∀ n ∈ z', (Lit.int .i64 n).wf = true) (g' : Arg w w.heap.size 1 a' len' (z'.map (Value.int .i64))) :
    Calls Try.prog 14 #[.slice a len cap, .slice a' len' cap'] w fun e w' => e = .returned (.bool true) ∧ Below w.heap.size w w' := by
  have g1 := arg_L g
  have f1 : ∀ s ∈ z.map L, s.length ≤ maxLen := fun s hs => by
    obtain ⟨t, ht, rfl⟩ := List.mem_map.1 hs; rw [L_len]; exact f t ht
  have l1 : (z.map L).length = len := by simpa using l
  generalize z.map L = ss at *
  subst l1
  have hm : ss.length ≤ maxLen := Nat.le_trans c m
  have hm' : len' ≤ 9223372036854775807 := by unfold maxLen at m'; omega
  have HA := Lib.hid g1
  have HF := Lib.hid f1
  have HA' := Lib.hid g'
  subst l'
  clear g g1 f f1 l c m g' c' m'
  go_enter Try.func14, Try.ntmps14
  go_wp2_with fail
  refine (fits3_any a cap ss _ _ HA.out hm HF.out).mono ?_
  rintro e w1 ⟨b, rfl, rfl, hfit⟩
  cases b with
  | false =>
    clear hfit
    go_wp2
    go_ret
    exact ⟨rfl, Below.refl _ _⟩
  | true =>
  obtain ⟨hl, hs⟩ := hfit rfl
  have HS := Lib.hid hs
  clear hfit hs hm
  by_cases hk1 : 2147483647 < z'.length
  · go_wp2
    go_ret
    exact ⟨rfl, Below.refl _ _⟩
  go_wp2_with fail
  refine (sizeOf_any a cap ss _ _ HA.out hl HS.out).mono ?_
  rintro e w1 ⟨zz, rfl, rfl, z0, z1, hz⟩
  have HZ := Lib.hid hz
  clear hz
  by_cases hzl : 1000000 < zz + z'.length
  · go_wp2_with (go_at_call 15; refine (tooLong_yes2 _ _ _ (by omega) (by omega) (by omega) (by omega) (by omega)).mono ?_; rintro e w' ⟨rfl, rfl⟩)
    go_ret
    exact ⟨rfl, (Below.refl _ _).alloc (Nat.le_refl _) _⟩
  have ht1 : tot1 ss ≤ 1000000 := HZ.out (by omega)
  have ht : tot ss ≤ 3000000 := by have := tot_tot1 ss; omega
  have HB0 := Lib.hid ((Below.refl w.heap.size w).alloc (Nat.le_refl _) (.cells #[.int .i64 zz, .int .i64 (z'.length : Int)] 3))
  go_wp2_with (go_at_call 15; refine (tooLong_no2 _ _ _ (by omega) (by omega) (by omega)).mono ?_; rintro e w' ⟨rfl, rfl⟩)
  go_loopw [5, 6, 34] (fun sv tv iv wr => ∃ (k : Nat) (s t : ByteArray), iv = .int .i64 k ∧ k ≤ ss.length ∧ sv = .string s ∧ tv = .string t ∧ s.size ≤ 3000000 ∧ t.size ≤ 3000000 ∧ Hid (s.size ≤ tot (ss.take k)) ∧ Hid (t.size ≤ tot (ss.take k)) ∧ Hid (Tells (ss.take k) (L s)) ∧ Hid (Tells (ss.take k) (L t)) ∧ Below w.heap.size w wr) (fun _ _ iv _ => ss.length - (intOf iv).toNat)
  case atStart => exact ⟨0, ByteArray.empty, ByteArray.empty, rfl, Nat.zero_le _, rfl, rfl, Nat.zero_le _, Nat.zero_le _, Nat.zero_le _, Nat.zero_le _, Tells.nil, Tells.nil, HB0.out⟩
  case round =>
    obtain ⟨k, s, t, rfl, hk, rfl, rfl, hs, ht, HS1, HT1, HTS, HTT, hbel⟩ := hrel
    have HBEL := Lib.hid hbel
    clear hbel
    by_cases hlt : k < ss.length
    · obtain ⟨bb, oo, rfl, hbb, hc⟩ := (HA.out.below HBEL.out).cell hlt
      have hxs : (mkB ss[k]).size ≤ 2147483647 := by rw [size_mkB]; exact HS.out _ (List.getElem_mem _)
      have HLX : Hid (L (mkB ss[k]) = ss[k]) := L_mkB _
      have h32 : (⟨#[32]⟩ : ByteArray).size = 1 := rfl
      generalize mkB ss[k] = x at *
      go_wp2_with fail
      cases hbo : both (L x) with
      | true =>
        refine (implJoin1_no _ _ _ x (by simp) hxs hbo).mono ?_
        rintro e w2 ⟨rfl, hb2⟩
        have HB2 := Lib.hid (HBEL.out.trans (hb2.mono HBEL.out.size))
        clear hb2 hbo
        go_wp2_with fail
        refine (implJoin_a _ _).mono ?_
        rintro e w3 ⟨rfl, hb3⟩
        have HB3 := Lib.hid (HB2.out.trans (hb3.mono HB2.out.size))
        clear hb3
        go_wp2
        go_ret
        exact ⟨rfl, HB3.out⟩
      | false =>
        refine (implJoin1_yes _ _ _ x (by simp) hxs hbo).mono ?_
        rintro e w2 ⟨rfl, hb2⟩
        have HB2 := Lib.hid (HBEL.out.trans (hb2.mono HBEL.out.size))
        clear hb2
        have HBO : Hid (both ss[k] = false) := by show _ = _; rw [← HLX.out]; exact hbo
        have HWD : Hid (L (mkB (quoteL (L x))) = quoteL ss[k]) := by show _ = _; rw [L_mkB, HLX.out]
        have hwd : (mkB (quoteL (L x))).size ≤ ss[k].length + 2 := by rw [size_mkB, HLX.out]; exact quoteL_len _
        have HWL := Lib.hid hwd
        have htk := tot_take ss k hlt
        have hwz : (mkB (quoteL (L x))).size ≤ 3000000 := by omega
        have HTK := Lib.hid htk
        have HTL : Hid (tot (ss.take (k + 1)) = tot (ss.take k) + (ss[k].length + 3)) := by
          show _ = _
          unfold tot; rw [List.take_succ_eq_append_getElem hlt, List.map_append, List.sum_append]; rfl
        clear hbo htk hwd
        generalize mkB (quoteL (L x)) = wd at *
        by_cases hx0 : 0 < x.size
        · have hxe := isEmpty_no x hx0
          have HNE : Hid (ss[k] ≠ []) := fun e => by
            have h1 := HLX.out; rw [e] at h1; have h2 := L_len x; rw [h1] at h2; simp at h2; omega
          by_cases hkz : k < z'.length
          · obtain ⟨b', o', rfl, hb', hc'⟩ := (HA'.out.below HB2.out).at_ (by omega)
            have hcz : w2.cell? ⟨b', o' + k, none⟩ = some (.int .i64 z'[k]) := by
              rw [hc' k (by omega), List.getElem?_map, List.getElem?_eq_getElem hkz]; rfl
            clear hc'
            generalize z'[k] = y at *
            obtain ⟨κ, hκ, hmd⟩ := md4 y
            have HMD := Lib.hid hmd
            have hcn := cell_new4 w2 κ hκ
            have hz1 := spOf_size κ
            have HSP := Lib.hid (spOf_L κ)
            generalize spOf κ = sp at *
            clear hmd
            go_wp2_with (go_at_call 20; refine (HMD.out _).mono ?_; rintro e w' ⟨rfl, rfl⟩)
            go_roundw
            case rel =>
              have e1 := HS1.out
              have e2 := HT1.out
              have e3 := HWL.out
              have e4 := HTK.out
              have e5 := HTL.out
              exact ⟨k + 1, _, _, by go_num, by omega, rfl, rfl, by rw [ByteArray.size_append, ByteArray.size_append, h32]; omega, by rw [ByteArray.size_append, ByteArray.size_append, hz1]; omega,
                by show _ ≤ _; rw [ByteArray.size_append, ByteArray.size_append, h32]; omega, by show _ ≤ _; rw [ByteArray.size_append, ByteArray.size_append, hz1]; omega,
                HTS.out.step hlt HNE.out HBO.out HWD.out ⟨32, rfl, rfl⟩, HTT.out.step hlt HNE.out HBO.out HWD.out HSP.out, HB2.out.alloc HB2.out.size _⟩
            case measure => simp [intOf]; omega
          · go_wp2
            go_roundw
            case rel =>
              have e1 := HS1.out
              have e2 := HT1.out
              have e3 := HWL.out
              have e4 := HTK.out
              have e5 := HTL.out
              exact ⟨k + 1, _, _, by go_num, by omega, rfl, rfl, by rw [ByteArray.size_append, ByteArray.size_append, h32]; omega, by rw [ByteArray.size_append, ByteArray.size_append, h32]; omega,
                by show _ ≤ _; rw [ByteArray.size_append, ByteArray.size_append, h32]; omega, by show _ ≤ _; rw [ByteArray.size_append, ByteArray.size_append, h32]; omega,
                HTS.out.step hlt HNE.out HBO.out HWD.out ⟨32, rfl, rfl⟩, HTT.out.step hlt HNE.out HBO.out HWD.out ⟨32, rfl, rfl⟩, HB2.out.alloc HB2.out.size _⟩
            case measure => simp [intOf]; omega
        · have hxe := isEmpty_yes x (by omega)
          go_wp2_with fail
          refine (implJoin_a _ _).mono ?_
          rintro e w3 ⟨rfl, hb3⟩
          have HB3 := Lib.hid (HB2.out.trans (hb3.mono HB2.out.size))
          clear hb3
          go_wp2
          go_ret
          exact ⟨rfl, HB3.out⟩
    · have hT := HTS.out.all
      have hT' := HTT.out.all
      rw [List.take_of_length_le (by omega)] at hT hT'
      have HF1 := Lib.hid hT
      have HF2 := Lib.hid hT'
      clear hT hT'
      go_wp2_with fail
      refine (implSplit_some s ss _ (by omega) HF1.out).mono ?_
      rintro e w1 ⟨v1, rfl, hr1, hb1⟩
      have HB1 := Lib.hid (HBEL.out.trans (hb1.mono HBEL.out.size))
      have HR1 := Lib.hid hr1
      obtain ⟨a1, c1, rfl⟩ := hr1.shape
      clear hb1 hr1
      go_wp2_with fail
      refine (implSplit_some t ss _ (by omega) HF2.out).mono ?_
      rintro e w2 ⟨v2, rfl, hr2, hb2⟩
      have HB2 := Lib.hid (HB1.out.trans (hb2.mono HB1.out.size))
      have HR12 := Lib.hid (HR1.out.below hb2 HR1.out.blt)
      have HR2 := Lib.hid hr2
      obtain ⟨a2, c2, rfl⟩ := hr2.shape
      clear hb2 hr2
      go_wp2_with fail
      refine (sameTexts_yes _ _ _ _ _ _ ss hl HR12.out.rd HR2.out.rd).mono ?_
      rintro e w6 ⟨rfl, mm, rfl⟩
      go_wp2
      go_ret
      exact ⟨rfl, below_drewN HB2.out _⟩
end Go.Proofs.Ytlmmhhbdibcijaa
