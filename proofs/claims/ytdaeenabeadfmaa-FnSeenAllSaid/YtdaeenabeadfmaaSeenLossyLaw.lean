/-
  The contract of spec.Earlier and the walk of the law FnSeenLossy. For every input.
-/
import Derived.Test.YtdaeenabeadfmaaLossyAll
import Derived.Test.YtdaeenabeadfmaaLong
import Derived.Test.YtdaeenabeadfmaaBytes
set_option linter.unusedVariables false
set_option maxHeartbeats 4000000
set_option maxRecDepth 100000
namespace Go.Proofs.Ytdaeenabeadfmaa
open Go.RowKit Go.PlainAid Go.Lib

theorem nums_head (w' : World) (b o n c i : Nat) (hi : i ≤ c) (h0 : 0 < c) : (Instr.slice 22 (.slice (some ⟨b, o, none⟩) n c) none (some (.int .i64 (i : Int))) none).run Try.prog w' = .ok (.slice (some ⟨b, o, none⟩) i c) w' := by
  have hs : (sizeOf (Try.prog.elem 22)).run Try.prog w' = .ok 1 w' := by kernel_rfl
  rw [run_slice_h w' 22 _ n c rfl .i64 i (by omega) (by omega), hs]
  have : ¬ c = 0 := by omega
  simp [Result.andThen, sliced, this, Addr.add_lit]
def EPost (b : Bool) (w : World) (e : Ending) (w' : World) : Prop := e = .returned (.bool b) ∧ w = w'
theorem earlier_any (w : World) (b o c : Nat) (xs : List Int) (k : Nat) (hk : k ≤ xs.length) (hl : xs.length ≤ 4294967296) (h : Int) (hc : ∀ j, j < xs.length → w.cell? ⟨b, o + j, none⟩ = some (.int .u64 (xs.getD j 0))) :
    Calls Try.prog 7 #[.slice (some ⟨b, o, none⟩) k c, .int .u64 h] w (EPost (decide (h ∈ xs.take k)) w) := by
  have HC := Lib.hid hc
  clear hc
  obtain ⟨B, hB⟩ : ∃ B, B = decide (h ∈ xs.take k) := ⟨_, rfl⟩
  rw [← hB]
  have HB := Lib.hid hB
  clear hB
  go_enter Try.func7, Try.ntmps7
  go_wp2
  go_loop [9] (fun iv => ∃ i : Nat, iv = .int .i64 i ∧ i ≤ k ∧ Hid (h ∉ xs.take i)) (fun iv => k - (intOf iv).toNat)
  case atStart => exact ⟨0, rfl, Nat.zero_le _, (by show h ∉ xs.take 0; simp)⟩
  case round =>
    obtain ⟨i, rfl, hi, HN⟩ := hrel
    by_cases hlt : i < k
    · have c0 := HC.out i (by omega)
      have HT := Lib.hid (List.take_succ_eq_append_getElem (show i < xs.length by omega))
      have HX : Hid (xs.getD i 0 = xs[i]'(by omega)) := by show _ = _; rw [List.getD, List.getElem?_eq_getElem (by omega)]; rfl
      generalize xs.getD i 0 = x at *
      by_cases he : x = h
      · have e1 : (x == h) = true := by simp [he]
        have HE := Lib.hid he
        clear he
        go_wp2
        go_ret
        have : h ∈ xs.take k := by
          have h1 : h ∈ xs.take (i + 1) := by rw [HT.out, ← HX.out, HE.out]; simp
          exact (List.take_subset_take_left xs (show i + 1 ≤ k by omega)) h1
        exact ⟨by rw [HB.out, decide_eq_true this]; rfl, rfl⟩
      · have e1 : (x == h) = false := by simp [he]
        have HE := Lib.hid he
        clear he
        go_wp2
        go_round
        case rel =>
          refine ⟨i + 1, by go_num, by omega, ?_⟩
          show h ∉ xs.take (i + 1)
          rw [HT.out, ← HX.out]
          intro hm
          rcases List.mem_append.1 hm with h1 | h1
          · exact HN.out h1
          · simp at h1; exact HE.out h1.symm
        case measure => simp [intOf]; omega
    · obtain rfl : i = k := by omega
      go_wp2
      go_ret
      exact ⟨by rw [HB.out, decide_eq_false HN.out]; rfl, rfl⟩
theorem arg_lit (w : World) (T : TypeId) : Arg (w.alloc (.cells #[.int .u64 1] T)) (w.alloc (.cells #[.int .u64 1] T)).heap.size 1 (some ⟨w.heap.size, 0, none⟩) [(1 : Int)].length ([(1 : Int)].map (Value.int .u64)) := by
  refine ⟨rfl, fun _ => ⟨_, _, rfl, by simp, fun j hj => ?_⟩⟩
  rw [cell_of_row _ _ _ _ _ _ (heap_alloc_new w _), Nat.zero_add]
  simp
theorem walkFnSeenLossy (w : World) (a : Option Addr) (len cap : Nat) (xs : List Int) (hxl : xs.length = len) (hlc : len ≤ cap) (hcm : cap ≤ maxLen) (hwf : ∀ n ∈ xs, (Lit.int .u64 n).wf = true) (ha : Arg w w.heap.size 1 a len (xs.map (Value.int .u64))) :
    Calls Try.prog 3 #[.slice a len cap] w fun e w' => e = .returned (.bool true) ∧ Below w.heap.size w w' := by
  subst hxl
  unfold maxLen at hcm
  have HW : Hid (∀ x ∈ xs, 0 ≤ x ∧ x ≤ 18446744073709551615) := fun x hx => bounds_u64 (hwf x hx)
  have HA := Lib.hid ha
  clear ha hwf
  by_cases h1 : 2147483647 < xs.length
  · go_enter Try.func3, Try.ntmps3
    go_wp2
    go_ret
    exact ⟨rfl, Below.refl _ _⟩
  by_cases h2 : 1000000 < xs.length
  · go_enter Try.func3, Try.ntmps3
    go_wp2_with (go_at_call 5; refine (tooLong_yes1 _ _ (by omega) (by omega) (by omega)).mono ?_; rintro e w' ⟨rfl, rfl⟩)
    go_ret
    exact ⟨rfl, (Below.refl _ _).alloc (Nat.le_refl _) _⟩
  have HB0 := Lib.hid ((Below.refl w.heap.size w).alloc (Nat.le_refl _) (.cells #[.int .i64 (xs.length : Int)] 3))
  go_enter Try.func3, Try.ntmps3
  go_wp2_with (go_at_call 5; refine (tooLong_no1 _ _ (by omega) (by omega)).mono ?_; rintro e w' ⟨rfl, rfl⟩)
  refine (lossyAll_any a cap xs _ ((HA.out.below HB0.out).more HB0.out.size) (by omega) HW.out).mono ?_
  rintro e w2 ⟨bs, v, rfl, hbl, hok, hr, hb⟩
  have HB2 := Lib.hid (HB0.out.trans (hb.mono HB0.out.size))
  have HOK := Lib.hid hok
  rw [hbl] at hr
  have HR2 := Lib.hid hr
  obtain ⟨va, vc, rfl⟩ := hr.shape
  have HBL := Lib.hid hbl
  have hcall := fun W => lossyAll_any (some ⟨W.heap.size, 0, none⟩) 1 [1] _ (arg_lit W 26) (by simp) (by simp)
  clear hok hr hb hbl
  go_wp2_with fail
  refine (hcall _).mono ?_
  clear hcall
  rintro e w3 ⟨bs1, v1, rfl, hbl1, _, hr1, hb1⟩
  have HB3 := Lib.hid ((HB2.out.alloc HB2.out.size _).trans (hb1.mono (by have := HB2.out.size; simp; omega)))
  have HR3 := Lib.hid ((HR2.out.alloc (.cells #[.int .u64 1] 26)).below hb1 (fun g hg => by have := HR2.out.blt g hg; simp; omega))
  obtain ⟨va1, vc1, rfl⟩ := hr1.shape
  have hbl1' : bs1.length = 1 := hbl1
  rw [hbl1']
  clear hbl1 hbl1' hr1 hb1
  go_wp2_with fail
  go_loop [28] (fun iv => ∃ k : Nat, iv = .int .i64 k ∧ k ≤ xs.length) (fun iv => xs.length - (intOf iv).toNat)
  case atStart => exact ⟨0, rfl, Nat.zero_le _⟩
  case round =>
    obtain ⟨k, rfl, hk⟩ := hrel
    by_cases hlt : k < xs.length
    · obtain ⟨b, o, hae, hb, hx⟩ := (HA.out.below HB3.out).at_ (by omega)
      subst hae
      have hcs : ∀ j, j < xs.length → w3.cell? ⟨b, o + j, none⟩ = some (.int .u64 (xs.getD j 0)) := fun j hj => by
        rw [hx j (by omega), List.getElem?_map, List.getD, List.getElem?_eq_getElem hj]; rfl
      have c0 := hcs k hlt
      have hE := earlier_any w3 b o cap xs k hk (by omega) (xs.getD k 0) hcs
      obtain ⟨g2, o2, cap2, e2, _, _, _, _, hx2⟩ := HR3.out.at_ (by omega) (by omega)
      injection e2 with e2 _ e3
      subst e2 e3
      have d0 := hx2 k (by omega)
      rw [List.getElem?_map, List.getElem?_eq_getElem (by rw [HBL.out]; exact hlt), Option.map_some] at d0
      have hbit := HOK.out k (by rw [HBL.out]; exact hlt)
      rw [show bs.getD k false = bs[k]'(by rw [HBL.out]; exact hlt) by rw [List.getD, List.getElem?_eq_getElem (by rw [HBL.out]; exact hlt)]; rfl] at hbit
      obtain ⟨h3, h4⟩ := hbit
      have hsl := fun w' => nums_head w' b o xs.length cap k (by omega) (by omega)
      have hp : 0 < k → w3.cell? ⟨b, o + (k - 1), none⟩ = some (.int .u64 (xs.getD (k - 1) 0)) := fun _ => hcs (k - 1) (by omega)
      have H3 := Lib.hid h3
      have H4 := Lib.hid h4
      have HPP := Lib.hid hp
      generalize (bs[k]'(by rw [HBL.out]; exact hlt)) = ob at *
      have HEE := Lib.hid hE
      obtain ⟨h, hh⟩ : ∃ h, h = xs.getD k 0 := ⟨_, rfl⟩
      rw [← hh] at H3 H4 HEE c0
      clear hx hx2 hcs hE h3 h4 hp hh
      by_cases hz : h = 0
      · have e1 : (h != 0) = false := by simp [hz]
        clear hz
        by_cases hk0 : k = 0
        · have hk1 : ¬ 0 < k := by omega
          have HK0 := Lib.hid hk0
          clear hk0
          go_wp2_with fail
          go_round
          case rel => exact ⟨k + 1, by go_num, by omega⟩
          case measure => simp [intOf]; omega
        · have hk1 : 0 < k := by omega
          have q0 := HPP.out hk1
          have hi0 : (0 : Int) ≤ (k : Int) - 1 := by omega
          have hi1 : ((k : Int) - 1) < (xs.length : Int) := by omega
          obtain ⟨y, hy⟩ : ∃ y, y = xs.getD (k - 1) 0 := ⟨_, rfl⟩
          rw [← hy] at q0 H4
          clear hy hk0
          by_cases hyh : y = h
          · have e5 : (y == h) = true := by simp [hyh]
            obtain rfl : ob = true := H4.out hk1 hyh
            clear hyh
            go_wp2_with fail
            go_round
            case rel => exact ⟨k + 1, by go_num, by omega⟩
            case measure => simp [intOf]; omega
          · have e5 : (y == h) = false := by simp [hyh]
            clear hyh
            go_wp2_with fail
            go_round
            case rel => exact ⟨k + 1, by go_num, by omega⟩
            case measure => simp [intOf]; omega
      · have e1 : (h != 0) = true := by simp [hz]
        cases ob with
        | false =>
          clear hz
          by_cases hk0 : k = 0
          · have hk1 : ¬ 0 < k := by omega
            have HK0 := Lib.hid hk0
            clear hk0
            go_wp2_with fail
            go_round
            case rel => exact ⟨k + 1, by go_num, by omega⟩
            case measure => simp [intOf]; omega
          · have hk1 : 0 < k := by omega
            have q0 := HPP.out hk1
            have hi0 : (0 : Int) ≤ (k : Int) - 1 := by omega
            have hi1 : ((k : Int) - 1) < (xs.length : Int) := by omega
            obtain ⟨y, hy⟩ : ∃ y, y = xs.getD (k - 1) 0 := ⟨_, rfl⟩
            rw [← hy] at q0 H4
            clear hy hk0
            by_cases hyh : y = h
            · have e5 : (y == h) = true := by simp [hyh]
              exact absurd (H4.out hk1 hyh) (by simp)
            · have e5 : (y == h) = false := by simp [hyh]
              clear hyh
              go_wp2_with fail
              go_round
              case rel => exact ⟨k + 1, by go_num, by omega⟩
              case measure => simp [intOf]; omega
        | true =>
          have hEt := HEE.out
          rw [decide_eq_true (H3.out rfl hz)] at hEt
          clear hz
          by_cases hk0 : k = 0
          · have hk1 : ¬ 0 < k := by omega
            have HK0 := Lib.hid hk0
            clear hk0
            go_wp2_with fail
            refine hEt.mono ?_
            rintro e w4 ⟨rfl, rfl⟩
            go_wp2_with fail
            go_round
            case rel => exact ⟨k + 1, by go_num, by omega⟩
            case measure => simp [intOf]; omega
          · have hk1 : 0 < k := by omega
            have q0 := HPP.out hk1
            have hi0 : (0 : Int) ≤ (k : Int) - 1 := by omega
            have hi1 : ((k : Int) - 1) < (xs.length : Int) := by omega
            obtain ⟨y, hy⟩ : ∃ y, y = xs.getD (k - 1) 0 := ⟨_, rfl⟩
            rw [← hy] at q0 H4
            clear hy hk0
            by_cases hyh : y = h
            · have e5 : (y == h) = true := by simp [hyh]
              clear hyh
              go_wp2_with fail
              refine hEt.mono ?_
              rintro e w4 ⟨rfl, rfl⟩
              go_wp2_with fail
              go_round
              case rel => exact ⟨k + 1, by go_num, by omega⟩
              case measure => simp [intOf]; omega
            · have e5 : (y == h) = false := by simp [hyh]
              clear hyh
              go_wp2_with fail
              refine hEt.mono ?_
              rintro e w4 ⟨rfl, rfl⟩
              go_wp2_with fail
              go_round
              case rel => exact ⟨k + 1, by go_num, by omega⟩
              case measure => simp [intOf]; omega
    · go_wp2
      go_ret
      exact ⟨rfl, HB3.out⟩
end Go.Proofs.Ytdaeenabeadfmaa
