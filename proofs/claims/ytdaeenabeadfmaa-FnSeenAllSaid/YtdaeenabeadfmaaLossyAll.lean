/-
  The contract of impl.SeenLossyAll. For every list of numbers.
-/
import Derived.Test.YtdaeenabeadfmaaLossy
import Derived.Test.YtdaeenabeadfmaaArg
set_option linter.unusedVariables false
set_option maxHeartbeats 4000000
set_option maxRecDepth 100000
namespace Go.Proofs.Ytdaeenabeadfmaa
open Go.RowKit Go.PlainAid Go.Lib

def LInv (xs : List Int) (k : Nat) (C : Nat → Int) : Prop := (∀ j, j < 512 → C j = 0 ∨ C j ∈ xs.take k) ∧ (0 < k → ∃ j, j < 4 ∧ C ((xs.getD (k - 1) 0).toNat % 128 * 4 + j) = xs.getD (k - 1) 0)
def LBit (xs : List Int) (i : Nat) (b : Bool) : Prop := (b = true → xs.getD i 0 ≠ 0 → xs.getD i 0 ∈ xs.take i) ∧ (0 < i → xs.getD (i - 1) 0 = xs.getD i 0 → b = true)
def LOk (xs : List Int) (bs : List Bool) : Prop := ∀ i, i < bs.length → LBit xs i (bs.getD i false)
theorem lossy_step {xs : List Int} {k h : Nat} {C C' : Nat → Int} {b : Bool} (hk : k < xs.length) (hx : xs.getD k 0 = (h : Int)) (hi : LInv xs k C) (hp : (b = true ∧ C' = C ∧ ∃ j, j < 4 ∧ C (h % 128 * 4 + j) = h) ∨ (b = false ∧ (∀ j, j < 4 → C (h % 128 * 4 + j) ≠ h) ∧ ∃ p, p < 4 ∧ C' = upd C (h % 128 * 4 + p) h)) : LInv xs (k + 1) C' ∧ LBit xs k b := by
  have hg : xs[k] = (h : Int) := by rw [← hx, List.getD, List.getElem?_eq_getElem hk]; rfl
  have ht : xs.take (k + 1) = xs.take k ++ [(h : Int)] := by rw [List.take_succ_eq_append_getElem hk, hg]
  rcases hp with ⟨rfl, rfl, j, hj, hC⟩ | ⟨rfl, hno, p, hp, rfl⟩
  · refine ⟨⟨fun i hi2 => ?_, fun _ => ⟨j, hj, ?_⟩⟩, fun _ hz => ?_, fun _ _ => rfl⟩
    · rw [ht]
      rcases hi.1 i hi2 with h1 | h1
      · exact .inl h1
      · exact .inr (List.mem_append_left _ h1)
    · rw [Nat.add_sub_cancel, hx, Int.toNat_natCast]; exact hC
    · rw [hx] at hz ⊢
      rcases hi.1 (h % 128 * 4 + j) (by omega) with h1 | h1
      · rw [hC] at h1; exact absurd h1 hz
      · rw [hC] at h1; exact h1
  · refine ⟨⟨fun i hi2 => ?_, fun _ => ⟨p, hp, ?_⟩⟩, (fun hb => by cases hb), fun h0 he => ?_⟩
    · rw [ht]
      unfold upd
      split
      · exact .inr (List.mem_append_right _ (by simp))
      · rcases hi.1 i hi2 with h1 | h1
        · exact .inl h1
        · exact .inr (List.mem_append_left _ h1)
    · rw [Nat.add_sub_cancel, hx, Int.toNat_natCast]; unfold upd; rw [if_pos rfl]
    · exfalso
      obtain ⟨j, hj, hC⟩ := hi.2 h0
      rw [he, hx, Int.toNat_natCast] at hC
      exact hno j hj hC
theorem LOk.snoc {xs : List Int} {bs : List Bool} {b : Bool} (h : LOk xs bs) (hb : LBit xs bs.length b) : LOk xs (bs ++ [b]) := by
  intro i hi
  simp at hi
  by_cases he : i = bs.length
  · subst he
    rwa [show (bs ++ [b]).getD bs.length false = b by simp [List.getD]]
  · rw [show (bs ++ [b]).getD i false = bs.getD i false by rw [List.getD, List.getD, List.getElem?_append_left (by omega)]]
    exact h i (by omega)
theorem i64e' {a b : Int} (h : a = b) : Value.int .i64 a = .int .i64 b := by rw [h]
theorem infoBool : (Try.prog.info? 4).map (fun i => (i.zero, i.size, i.bytes)) = some (some (.bool false), 1, 1) := by kernel_rfl
def AllRel (w : World) (d : Nat) (xs : List Int) (v4 iv : Value) (wr : World) : Prop :=
  ∃ (bs : List Bool) (C : Nat → Int), iv = .int .i64 (bs.length : Int) ∧ bs.length ≤ xs.length ∧ Cache wr d C ∧ LInv xs bs.length C ∧ LOk xs bs ∧ Row wr (d + 1) 1 v4 bs.length (bs.map Value.bool) ∧ Below d w wr
theorem zeroD : ∃ zc : Array Value, (∀ w, Sem.run Try.prog (zeroValue 42) w = .ok (.agg zc) w) ∧ zc.toList.take 512 = List.replicate 512 (.int .u64 0) :=
  ⟨((Try.prog.info? 42).bind (·.zero)).elim #[] (fun v => v.cells), fun w => by kernel_rfl, by kernel_rfl⟩
theorem Cache.start {zc : Array Value} (w : World) (T : TypeId) (h : zc.toList.take 512 = List.replicate 512 (.int .u64 0)) : Cache (w.alloc (.cells zc T)) w.heap.size (fun _ => 0) := by
  refine ⟨by simp, fun j hj => ⟨?_, frozen_of_row _ _ _ _ _ (heap_alloc_new w _), Int.le_refl _, (by show (0 : Int) ≤ 18446744073709551615; omega)⟩⟩
  rw [cell_of_row _ _ _ _ _ _ (heap_alloc_new w _), ← Array.getElem?_toList]
  have : (zc.toList.take 512)[j]? = zc.toList[j]? := by rw [List.getElem?_take, if_pos hj]
  rw [← this, h, List.getElem?_replicate, if_pos hj]
theorem Cache.below {w w' : World} {d B : Nat} {C : Nat → Int} (h : Cache w d C) (hb : Below B w w') (hd : d < B) : Cache w' d C :=
  ⟨Nat.lt_of_lt_of_le h.1 hb.size, fun j hj => by
    obtain ⟨a1, a2, a3⟩ := h.2 j hj
    exact ⟨(hb.cell (p := ⟨d, j, none⟩) hd).trans a1, (hb.frozen (p := ⟨d, j, none⟩) hd).trans a2, a3⟩⟩
theorem seenLossy_door (w : World) (d : Nat) (C : Nat → Int) (hc : Cache w d C) (h : Nat) (hh : h < 18446744073709551616) :
    Calls Try.prog 9 #[.pointer (some ⟨d, 0, none⟩), .int .u64 (h : Int)] w (LossyPost w d C h) := by
  have HC := Lib.hid hc
  have HH := Lib.hid hh
  clear hc hh
  go_enter Try.func9, Try.ntmps9
  go_wp2_with fail
  refine (seenLossy_any w d C HC.out h HH.out).mono ?_
  rintro e w' ⟨b, C', rfl, h1, h2, h3⟩
  have H1 := Lib.hid h1
  have H2 := Lib.hid h2
  have H3 := Lib.hid h3
  clear h1 h2 h3
  go_wp2_with fail
  go_ret
  exact ⟨b, C', rfl, H1.out, H2.out, H3.out⟩
def AllPost (xs : List Int) (w : World) (e : Ending) (w' : World) : Prop :=
  ∃ (bs : List Bool) (v : Value), e = .returned v ∧ bs.length = xs.length ∧ LOk xs bs ∧ Row w' w.heap.size 1 v bs.length (bs.map Value.bool) ∧ Below w.heap.size w w'
theorem lossyAll_any (a : Option Addr) (c : Nat) (xs : List Int) (w : World) (ha : Arg w w.heap.size 1 a xs.length (xs.map (Value.int .u64))) (hl : xs.length ≤ 4294967296) (hw : ∀ x ∈ xs, 0 ≤ x ∧ x ≤ 18446744073709551615) :
    Calls Try.prog 6 #[.slice a xs.length c] w (AllPost xs w) := by
  obtain ⟨zc, hzv, hz⟩ := zeroD
  obtain ⟨i0, hi, hz0, hz1, hz2⟩ := info_parts infoBool
  have HA := Lib.hid ha
  have HW := Lib.hid hw
  have HZ := Lib.hid hz
  clear ha hw hz
  have hd1 : (w.alloc (.cells zc 42)).heap.size = w.heap.size + 1 := by simp
  have HS : Hid (AllRel w w.heap.size xs (.slice (some ⟨w.heap.size + 1, 0, none⟩) 0 0) (.int .i64 0) ((w.alloc (.cells zc 42)).alloc (.cells #[] 4))) := by
    refine ⟨[], fun _ => 0, rfl, Nat.zero_le _, (Cache.start w _ HZ.out).below ((Below.refl (w.heap.size + 1) _).alloc (by simp) _) (by omega), ⟨fun j _ => .inl rfl, fun h => absurd h (by simp)⟩, fun i hi => absurd hi (by simp), ?_, ((Below.refl _ _).alloc (Nat.le_refl _) _).alloc (by simp) _⟩
    have := Row.own (World.ownsRow_made (e := 4) (size := 1) (w.alloc (.cells zc 42)) #[] 0 (Nat.le_refl _) (by simp [maxLen]) rfl)
    rw [hd1] at this
    exact this
  go_enter Try.func6, Try.ntmps6
  go_wp2
  go_loopw [4, 12] (AllRel w w.heap.size xs) (fun _ iv _ => xs.length - (intOf iv).toNat)
  case atStart => exact HS.out
  case round =>
    clear HS
    obtain ⟨bs, C, rfl, hk, hca, hli, hlo, hrow, hbel⟩ := hrel
    have HCA := Lib.hid hca
    have HLI := Lib.hid hli
    have HLO := Lib.hid hlo
    have HR := Lib.hid hrow
    have HB := Lib.hid hbel
    obtain ⟨va, vc, rfl⟩ := hrow.shape
    clear hca hli hlo hrow hbel hzv
    by_cases hlt : bs.length < xs.length
    · obtain ⟨b, o, rfl, hb, hx⟩ := (HA.out.below HB.out).at_ (by omega)
      have hc := hx bs.length (by omega)
      rw [List.getElem?_map, List.getElem?_eq_getElem hlt, Option.map_some] at hc
      have hg := HW.out _ (List.getElem_mem hlt)
      have HX : Hid (xs.getD bs.length 0 = xs[bs.length]) := by show _ = _; rw [List.getD, List.getElem?_eq_getElem hlt]; rfl
      obtain ⟨h, hh⟩ := Int.eq_ofNat_of_zero_le hg.1
      rw [hh] at hc hg HX
      have HG := Lib.hid hg.2
      clear hx hh hg
      have hcall := seenLossy_door wr w.heap.size C HCA.out h (by have := HG.out; omega)
      have m1 : bs.length + 1 ≤ maxLen := by unfold maxLen; omega
      have m2 : (bs.length + 1) * 1 ≤ 140737488355328 := by omega
      go_wp2_with fail
      refine hcall.mono ?_
      clear hcall
      rintro e w2 ⟨bb, C', rfl, h1, h2, h3⟩
      have H1 := Lib.hid h1
      have HST := Lib.hid (lossy_step hlt HX.out HLI.out h3)
      have HR2 := Lib.hid (HR.out.grown h2 (.inl (fun e => by have := HR.out.blk _ e; omega)))
      have HB2 := Lib.hid (HB.out.grown h2 HB.out.size (fun g hg => by cases hg; exact Nat.le_refl _))
      have hsz : w.heap.size + 1 ≤ w2.heap.size := H1.out.1
      clear h1 h2 h3
      go_wp2_with (at_builtin; refine wpList_append_one w2 rfl (.tmp 16) (.tmp 20) 24 rfl (w.heap.size + 1) 4 i0 (.bool false) 1 Try.underlying24 hi hz0 hz1 hz2 rfl (.slice va bs.length vc) bs.length (bs.map Value.bool) HR2.out rfl (.bool bb) rfl rfl m1 m2 hsz (W := w2) (Below.refl _ _) ?_; intro v3 w3 k1 k2 k3 k4; obtain ⟨a3, c3, rfl⟩ := k1.shape; have K1 := Lib.hid k1; have K2 := Lib.hid k2; clear k1 k2 k3 k4)
      go_roundw
      case rel =>
        refine ⟨bs ++ [bb], C', by rw [List.length_append]; exact i64e' (by simp), by simp; omega, H1.out.below K2.out (by omega), by rw [show (bs ++ [bb]).length = bs.length + 1 by simp]; exact HST.out.1, HLO.out.snoc HST.out.2, ?_, HB2.out.trans (K2.out.mono (by omega))⟩
        rw [show (bs ++ [bb]).length = bs.length + 1 by simp, List.map_append]
        exact K1.out
      case measure => simp [intOf]; omega
    · go_wp2
      go_ret
      exact ⟨bs, _, rfl, by omega, HLO.out, HR.out.mono (by omega), HB.out⟩
end Go.Proofs.Ytdaeenabeadfmaa
