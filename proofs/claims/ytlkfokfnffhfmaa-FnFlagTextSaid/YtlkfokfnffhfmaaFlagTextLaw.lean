/-
  The contracts of impl.Join, impl.FlagSet, (*quoted.Flag).String and impl.FlagText at lists that can be joined, and the walk of the law FnFlagText. For every input.
-/
import Derived.Test.YtlkfokfnffhfmaaJoin
import Derived.Test.YtlkfokfnffhfmaaArgs
namespace Go.Proofs.Ytlkfokfnffhfmaa
open Go.RowKit Go.PlainAid

theorem implJoin_yes (a : Option Addr) (c : Nat) (ss : List Bs) (w : World) (ha : Arg w w.heap.size 1 a ss.length (ss.map S)) (ht : tot ss ≤ 4294967296) (hb : ss.any both = false) :
    Calls Try.prog 21 #[.slice a ss.length c] w fun e w' => e = .returned (.tuple #[.string (mkB (joinGo ss)), .bool true]) ∧ Below w.heap.size w w' := by
  have HA := Lib.hid ha
  have HT := Lib.hid ht
  have HB := Lib.hid hb
  clear ha ht hb
  go_enter Try.func21, Try.ntmps21
  go_wp2_with fail
  refine (join_any a c ss _ HA.out HT.out).mono ?_
  rintro e w1 ⟨hbel, h⟩
  have he : e = .returned (.tuple #[.string (mkB (joinGo ss)), .nilIface]) := by
    rcases h with ⟨h, _⟩ | ⟨_, h⟩
    · rw [HB.out] at h; cases h
    · exact h
  subst he
  have HBE := Lib.hid hbel
  clear hbel h
  go_wp2
  go_quiet (fail)
  go_wp2
  go_ret2
  exact ⟨rfl, below_drewN HBE.out _⟩
theorem arg_new1 (w : World) (s : ByteArray) (e : TypeId) : Arg (w.alloc (.cells #[.string s] e)) (w.alloc (.cells #[.string s] e)).heap.size 1 (some ⟨w.heap.size, 0, none⟩) [L s].length ([L s].map S) := by
  refine ⟨rfl, fun _ => ⟨w.heap.size, 0, rfl, by simp, fun j hj => ?_⟩⟩
  obtain rfl : j = 0 := by simp at hj; omega
  rw [cell_of_row _ _ _ _ _ _ (heap_alloc_new w (.cells #[.string s] e)), List.map_cons, ← S_L]; rfl
theorem joinable_both {ss : List Bs} (h : joinable ss = true) : ss.any both = false := by
  rw [List.any_eq_false]; intro x hx
  unfold joinable at h; rw [List.all_eq_true] at h
  have := h x hx; simp at this; simp [this.2]
theorem tot_tot1 (ss : List Bs) : tot ss ≤ 3 * tot1 ss := by
  induction ss with
  | nil => simp [tot, tot1]
  | cons a l ih => simp only [tot, tot1, List.map_cons, List.sum_cons] at *; omega
theorem splitL_len {s : ByteArray} {fs : List Bs} (h : splitL (L s) = some fs) (hs : s.size ≤ 2147483647) : fs.length ≤ 2147483647 := by
  have := splitL_count _ _ _ (Nat.le_refl _) h
  rw [L_len] at this; omega
def SetPost (s : ByteArray) (g : Nat) (w : World) (e : Ending) (w' : World) : Prop :=
  match splitL (L s) with
    | none => (∃ T p, e = .returned (.iface T p)) ∧ Below w.heap.size w w'
    | some fs => e = .returned .nilIface ∧ ∃ w1 a, w' = w1.setCell ⟨g, 0, none⟩ (.slice a fs.length fs.length) ∧ Below w.heap.size w w1 ∧ ∃ c, Row w1 w.heap.size 1 (.slice a fs.length c) fs.length (fs.map S)
theorem flagSet_any (s : ByteArray) (hs : s.size ≤ 2147483647) (g : Nat) (w : World) (u : Value) (hg : w.heap[g]? = some (.cells #[u] 70 (0, 0))) :
    Calls Try.prog 38 #[.pointer (some ⟨g, 0, none⟩), .string s] w (SetPost s g w) := by
  have hlt : g < w.heap.size := by
    rcases Nat.lt_or_ge g w.heap.size with h | h
    · exact h
    · rw [Array.getElem?_eq_none h] at hg; cases hg
  have HG := Lib.hid hg
  have HL := Lib.hid hlt
  clear hg hlt
  go_enter Try.func38, Try.ntmps38
  go_wp2_with fail
  refine (split_any s _ hs).mono ?_
  intro e w1 hp
  cases hf : splitL (L s) with
  | none =>
    unfold SplitPost at hp
    rw [hf] at hp
    obtain ⟨hb, T, p, rfl⟩ := hp
    have HB := Lib.hid hb
    have HF := Lib.hid hf
    clear hb hf
    go_wp2
    go_ret
    unfold SetPost
    rw [HF.out]
    exact ⟨⟨_, _, rfl⟩, HB.out⟩
  | some fs =>
    unfold SplitPost at hp
    rw [hf] at hp
    obtain ⟨hb, v, rfl, hr⟩ := hp
    have hfl := splitL_len hf hs
    have HB := Lib.hid hb
    have HF := Lib.hid hf
    have HR := Lib.hid hr
    obtain ⟨_, _, a, c, rfl, hle, hcm, _⟩ := hr
    have hg1 := (hb.block g HL.out).trans HG.out
    have hc1 : w1.cell? ⟨g, 0, none⟩ = some u := cell_of_row w1 g 0 _ _ _ hg1
    have hf1 := frozen_of_row w1 g 0 _ _ hg1
    clear hb hf hg1
    unfold maxLen at hcm
    go_wp2
    go_ret
    unfold SetPost
    rw [HF.out]
    exact ⟨rfl, w1, a, rfl, HB.out, c, HR.out⟩
theorem row_shrink {w : World} {B n c : Nat} {a : Option Addr} {xs : List Value} (h : Row w B 1 (.slice a n c) n xs) : Row w B 1 (.slice a n n) n xs := by
  obtain ⟨h1, h2, ao, cap, e, hle, hcm, hg⟩ := h
  simp only [Value.slice.injEq] at e
  obtain ⟨rfl, _, rfl⟩ := e
  refine ⟨h1, by cases a <;> exact h2, a, n, rfl, Nat.le_refl _, Nat.le_trans hle hcm, fun hn => ?_⟩
  obtain ⟨g, o, r1, r2, r3, r4, _⟩ := hg (by omega)
  exact ⟨g, o, r1, r2, r3, r4, fun j h1 h2 => absurd h2 (by omega)⟩
def FlagPost (fs : List Bs) (w : World) (e : Ending) (w' : World) : Prop := ∃ v, e = .returned (.tuple #[v, .bool true]) ∧ Row w' w.heap.size 1 v fs.length (fs.map S) ∧ Below w.heap.size w w'
theorem implFlag_some (s : ByteArray) (fs : List Bs) (w : World) (hs : s.size ≤ 2147483647) (hf : splitL (L s) = some fs) : Calls Try.prog 22 #[.string s] w (FlagPost fs w) := by
  have HF := Lib.hid hf
  clear hf
  have HB0 := Lib.hid (((Below.refl w.heap.size w).alloc (Nat.le_refl _) (.cells #[] 9)).alloc (by simp) (.cells #[.slice (some ⟨w.heap.size, 0, none⟩) 0 0] 70))
  go_enter Try.func22, Try.ntmps22
  go_wp2_with fail
  refine (flagSet_any s hs (w.heap.size + 1) _ (.slice (some ⟨w.heap.size, 0, none⟩) 0 0) (by have := heap_alloc_new (w.alloc (.cells #[] 9)) (.cells #[.slice (some ⟨w.heap.size, 0, none⟩) 0 0] 70); simpa using this)).mono ?_
  intro e w1 hp
  unfold SetPost at hp
  rw [HF.out] at hp
  obtain ⟨rfl, w2, a, rfl, hb2, c, hr2⟩ := hp
  have hb3 : Below w.heap.size w w2 := HB0.out.trans (hb2.mono (by simp; omega))
  have hsz : w.heap.size + 2 ≤ w2.heap.size := by have := hb2.size; simp at this; omega
  have hg2 : w2.heap[w.heap.size + 1]? = some (.cells #[.slice (some ⟨w.heap.size, 0, none⟩) 0 0] 70 (0, 0)) := by
    have := hb2.block (w.heap.size + 1) (by simp)
    rw [this]
    have := heap_alloc_new (w.alloc (.cells #[] 9)) (.cells #[.slice (some ⟨w.heap.size, 0, none⟩) 0 0] 70)
    simpa using this
  have hcell : (w2.setCell ⟨w.heap.size + 1, 0, none⟩ (.slice a fs.length fs.length)).cell? ⟨w.heap.size + 1, 0, none⟩ = some (.slice a fs.length fs.length) :=
    World.cell?_setCell_same w2 ⟨w.heap.size + 1, 0, none⟩ _ (cell_of_row w2 _ 0 _ _ _ hg2)
  have hrow : Row (w2.setCell ⟨w.heap.size + 1, 0, none⟩ (.slice a fs.length fs.length)) w.heap.size 1 (.slice a fs.length fs.length) fs.length (fs.map S) :=
    ((row_shrink hr2).mono (by simp; omega)).setCell (fun e => by have := (row_shrink hr2).blk _ e; simp at this; omega) _
  have HROW := Lib.hid hrow
  have HB3 := Lib.hid (hb3.setCell (p := ⟨w.heap.size + 1, 0, none⟩) (by show w.heap.size ≤ w.heap.size + 1; omega) (.slice a fs.length fs.length))
  generalize w2.setCell ⟨w.heap.size + 1, 0, none⟩ (.slice a fs.length fs.length) = w3 at *
  clear hrow hb3 hg2 hsz hr2 hb2
  go_wp2
  go_quiet (fail)
  go_wp2
  go_ret2
  exact ⟨_, rfl, HROW.out, below_drewN HB3.out _⟩
theorem flagString_yes (g : Nat) (a : Option Addr) (c : Nat) (ss : List Bs) (w : World) (hg : w.cell? ⟨g, 0, none⟩ = some (.slice a ss.length c)) (ha : Arg w w.heap.size 1 a ss.length (ss.map S)) (ht : tot ss ≤ 4294967296) (hb : ss.any both = false) :
    Calls Try.prog 36 #[.pointer (some ⟨g, 0, none⟩)] w fun e w' => e = .returned (.string (mkB (joinGo ss))) ∧ Below w.heap.size w w' := by
  have HA := Lib.hid ha
  have HT := Lib.hid ht
  have HB := Lib.hid hb
  clear ha ht hb
  go_enter Try.func36, Try.ntmps36
  go_wp2_with fail
  refine (join_any a c ss _ HA.out HT.out).mono ?_
  rintro e w1 ⟨hbel, h⟩
  have he : e = .returned (.tuple #[.string (mkB (joinGo ss)), .nilIface]) := by
    rcases h with ⟨h, _⟩ | ⟨_, h⟩
    · rw [HB.out] at h; cases h
    · exact h
  subst he
  have HBE := Lib.hid hbel
  clear hbel h
  go_wp2
  go_ret
  exact ⟨rfl, HBE.out⟩
theorem implFlagText_yes (a : Option Addr) (c : Nat) (ss : List Bs) (w : World) (ha : Arg w w.heap.size 1 a ss.length (ss.map S)) (ht : tot ss ≤ 4294967296) (hb : ss.any both = false) :
    Calls Try.prog 20 #[.slice a ss.length c] w fun e w' => e = .returned (.string (mkB (joinGo ss))) ∧ Below w.heap.size w w' := by
  have HA := Lib.hid ha
  have HT := Lib.hid ht
  have HB := Lib.hid hb
  clear ha ht hb
  go_enter Try.func20, Try.ntmps20
  have HB0 := Lib.hid ((Below.refl w.heap.size w).alloc (Nat.le_refl _) (.cells #[.slice a ss.length c] 70))
  go_wp2_with fail
  refine (flagString_yes w.heap.size a c ss _ (cell_of_row _ _ 0 _ _ _ (heap_alloc_new _ _)) ((HA.out.below HB0.out).more (by simp)) HT.out HB.out).mono ?_
  rintro e w1 ⟨rfl, hb1⟩
  have HB1 := Lib.hid (HB0.out.trans (hb1.mono (by simp)))
  clear hb1
  go_wp2
  go_ret
  exact ⟨rfl, HB1.out⟩
theorem tot_one (s : ByteArray) : tot [L s] = s.size + 3 := by simp [tot, L_len]
theorem implFlagText_a (w : World) (c : Nat) : Calls Try.prog 20 #[.slice (some ⟨w.heap.size, 0, none⟩) 1 c] (w.alloc (.cells #[.string ⟨#[97]⟩] 9)) fun e w' => e = .returned (.string (mkB [97])) ∧ Below w.heap.size w w' :=
  (implFlagText_yes _ c [L ⟨#[97]⟩] _ (arg_new1 w ⟨#[97]⟩ 9) (by rw [tot_one]; decide) (by decide)).mono fun _ _ ⟨h1, h2⟩ => ⟨h1, ((Below.refl _ _).alloc (Nat.le_refl _) _).trans (h2.mono (by simp))⟩

theorem walkFnFlagText (w : World) (a : Option Addr) (len cap : Nat) (z : List ByteArray) (l : z.length = len) (c : len ≤ cap) (m : cap ≤ maxLen) (f : ∀ s ∈ z, s.size ≤ maxLen) (g : Arg w w.heap.size 1 a len (z.map Value.string)) :
    Calls Try.prog 5 #[.slice a len cap] w fun e w' => e = .returned (.bool true) ∧ Below w.heap.size w w' := by
  have g1 := arg_L g
  have f1 : ∀ s ∈ z.map L, s.length ≤ maxLen := fun s hs => by
    obtain ⟨t, ht, rfl⟩ := List.mem_map.1 hs; rw [L_len]; exact f t ht
  have l1 : (z.map L).length = len := by simpa using l
  generalize z.map L = ss at *
  subst l1
  have hm : ss.length ≤ maxLen := Nat.le_trans c m
  have HA := Lib.hid g1
  have HF := Lib.hid f1
  clear g g1 f f1 l c m
  go_enter Try.func5, Try.ntmps5
  go_wp2_with fail
  refine (fits3_any a cap ss _ _ HA.out hm HF.out).mono ?_
  rintro e w1 ⟨b, rfl, rfl, hfit⟩
  cases b with
  | false =>
    clear hfit
    go_wp2
    go_ret
    exact ⟨rfl, Below.refl _ _⟩
  | true =>
    obtain ⟨hl, hs⟩ := hfit rfl
    have HS := Lib.hid hs
    clear hfit hs hm
    go_wp2_with fail
    refine (sizeOf_any a cap ss _ _ HA.out hl HS.out).mono ?_
    rintro e w1 ⟨zz, rfl, rfl, z0, z1, hz⟩
    have HZ := Lib.hid hz
    clear hz
    by_cases hzl : 1000000 < zz
    · go_wp2_with (go_at_call 6; refine (tooLong_yes1 _ _ (by omega) (by omega) (by omega)).mono ?_; rintro e w' ⟨rfl, rfl⟩)
      go_ret
      exact ⟨rfl, (Below.refl _ _).alloc (Nat.le_refl _) _⟩
    · have ht1 : tot1 ss ≤ 1000000 := HZ.out (by omega)
      have ht : tot ss ≤ 3000000 := by have := tot_tot1 ss; omega
      have HB0 := Lib.hid ((Below.refl w.heap.size w).alloc (Nat.le_refl _) (.cells #[.int .i64 zz] 3))
      go_wp2_with (go_at_call 6; refine (tooLong_no1 _ _ (by omega) (by omega)).mono ?_; rintro e w' ⟨rfl, rfl⟩)
      refine (joinable_any a cap ss _ _ (HA.out.below HB0.out) hl HF.out).mono ?_
      cases hj : joinable ss with
      | false =>
        clear hj
        rintro e w5 ⟨rfl, rfl⟩
        have ha97 : (mkB [97]).toList = [97] := by rw [toList_L, L_mkB]
        go_wp2_with fail
        rw [show w.heap.size + 1 = (w.alloc (.cells #[.int .i64 zz] 3)).heap.size by simp]
        refine (implFlagText_a _ _).mono ?_
        rintro e w3 ⟨rfl, hb3⟩
        have HB3 := Lib.hid (HB0.out.trans (hb3.mono HB0.out.size))
        clear hb3
        go_wp2
        go_ret
        exact ⟨rfl, HB3.out⟩
      | true =>
        have HJ := Lib.hid hj
        clear hj
        rintro e w5 ⟨rfl, rfl⟩
        go_wp2_with fail
        refine (implFlagText_yes a cap ss _ ((HA.out.below HB0.out).more HB0.out.size) (by omega) (joinable_both HJ.out)).mono ?_
        rintro e w2 ⟨rfl, hb2⟩
        have HB2 := Lib.hid (HB0.out.trans (hb2.mono HB0.out.size))
        clear hb2
        have HSP := Lib.hid (join_split ss HJ.out)
        have hjs : (mkB (joinGo ss)).size ≤ 2147483647 := by rw [size_mkB]; have := joinGo_len ss; omega
        have HLM : Hid (L (mkB (joinGo ss)) = joinGo ss) := L_mkB _
        go_wp2_with fail
        refine (implJoin_yes a cap ss _ ((HA.out.below HB2.out).more HB2.out.size) (by omega) (joinable_both HJ.out)).mono ?_
        rintro e w3 ⟨rfl, hb3⟩
        have HB3 := Lib.hid (HB2.out.trans (hb3.mono HB2.out.size))
        clear hb3
        generalize mkB (joinGo ss) = s at *
        go_wp2_with fail
        refine (implFlag_some s ss _ hjs (by rw [HLM.out]; exact HSP.out)).mono ?_
        rintro e w4 ⟨v4, rfl, hr4, hb4⟩
        have HB4 := Lib.hid (HB3.out.trans (hb4.mono HB3.out.size))
        have HR4 := Lib.hid hr4
        obtain ⟨a4, c4, rfl⟩ := hr4.shape
        clear hr4 hb4
        go_wp2_with fail
        refine (sameTexts_yes _ _ _ _ _ _ ss hl HR4.out.rd (HA.out.below HB4.out).rd).mono ?_
        rintro e w6 ⟨rfl, mm, rfl⟩
        go_wp2
        go_ret
        exact ⟨rfl, below_drewN HB4.out _⟩
end Go.Proofs.Ytlkfokfnffhfmaa
