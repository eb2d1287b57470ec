/-
  The signs of a round of bisect.New's main loop. For every text of at most 4294967296 bytes.
-/
import Derived.Test.YtnjdckhaecdldaaNewLoop
import Derived.Outline
import Derived.Deep.DeepCutAuto
import Derived.Deep.CutBlock
set_option linter.unusedVariables false
namespace Go.Proofs.Ytnjdckhaecdldaa
open Go.RowKit Go.PlainAid

set_option maxRecDepth 1000000 in
set_option maxHeartbeats 4000000 in
theorem round_minus_bad (s p : ByteArray) (w wr : World) (v q e : Bool) (R : Option PSt) (U : Nat → Value) (K : Act → World → Prop) (h0 : 0 < s.size) (hs : s.size ≤ 4294967296) (hps : p.size ≤ s.size)
    (i : Nat) (hlt : i < p.size) (a : Nat) (res : Bool) (bits : Int) (seg : Bs) (wid : Nat) (hwid : wid = 1 ∨ wid = 4) (list : List Cond) (lv : Value) (hai : a ≤ i)
    (HN : Hid (newL (L s) = R.map fun st => ⟨v, q, e, st.list⟩)) (HSL : Hid (seg.length = i - a)) (HSH : Hid (a < i → seg.head? = (L p)[a]?)) (HRA : Hid (runAt (L p) i ⟨res, bits, seg, wid, decide (0 < i), list⟩ = R)) (HM : Hid (MatAt wr w.heap.size v q e lv)) (HROW : Hid (Row wr (w.heap.size + 1) 3 lv list.length (condCells list))) (HB : Hid (Below w.heap.size w wr)) (HLL : Hid (list.length ≤ i))
    (hc2 : bt p i = ((45 : UInt8).toNat : Int)) (HC : Hid ((L p)[i]? = some 45)) (HST : Hid (runAt (L p) i ⟨res, bits, seg, wid, decide (0 < i), list⟩ = (stepP 45 (L p)[i + 1]? ⟨res, bits, seg, wid, decide (0 < i), list⟩).bind (runAt (L p) (i + 1))))
    (hpos : 0 < i) (hbad : 64 < seg.length * wid ∨ seg = []) :
    Code.wp Try.prog body3 (Exit.then (fun a' w'' => WI s p w v q e R a' w'' ∧ Wmu p a' w'' < p.size + 1 - i) (Exit.inBlock 4 (Exit.then K (bodyPost Try.prog Try.f23 (NewPost s w))))) (Fr s p w.heap.size (.bool res) (.int .u64 bits) (.int .i64 a) (.int .i64 (wid : Nat)) (.int .i64 i) U) wr := by
  conv => arg 2; whnf
  simp only [Fr]
  have hbp := get_bt p
  simp at hc2
  go_upto_region 35 with (fail)
  go_cut [122] (fun bv wc => ∃ b : Bool, bv = .bool b ∧ wr = wc ∧ Hid (b = (decide (a = i) && decide (wid = 1) && (bt p i == 120))))
  case first =>
    by_cases hia : a = i
    · have hia1 : ((i : Int) == (a : Int)) = true := by simp <;> omega
      rcases hwid with rfl | rfl
      · go_wp2
        go_meet
        case rel => exact ⟨_, rfl, rfl, by show _ = _; first | (simp [hia]; done) | (rw [hc2]; simp [hia]; done)⟩
      · go_wp2
        go_meet
        case rel => exact ⟨_, rfl, rfl, by show _ = _; simp⟩
    · have hia1 : ((i : Int) == (a : Int)) = false := by simp <;> omega
      go_wp2
      go_meet
      case rel => exact ⟨_, rfl, rfl, by show _ = _; first | (simp [hia]; done) | (rw [hc2]; simp [hia]; done)⟩
  case rest =>
  obtain ⟨b0, rfl, rfl, HBV⟩ := hcut
  obtain rfl : b0 = false := by rw [HBV.out, hc2]; simp
  obtain ⟨N, hN, hNb, hNs⟩ := nprod HSL.out hai (by omega) hwid
  have HNS := Lib.hid hNs
  clear hNs
  by_cases h64 : 64 < N
  · have HSTEP : Hid (stepP 45 (L p)[i + 1]? ⟨res, bits, seg, wid, decide (0 < i), list⟩ = none) := by
      show _ = _
      rw [decide_eq_true hpos]; exact step_sign_bad (.inr rfl) (fun h => absurd h (by decide)) (.inl (by rw [← HNS.out]; exact h64))
    go_wp2
    go_ret2
    exact err_post h0 (by rw [HN.out, ← HRA.out, HST.out, HSTEP.out]; rfl) (HB.out.alloc HB.out.size _) ⟨_, _, rfl⟩
  · have hN0 : N = 0 := by
      rcases hbad with h | h
      · exact absurd (by rw [HNS.out]; exact h) h64
      · rw [HNS.out, h]; simp
    have hse : seg = [] := by
      have h := HNS.out
      rw [hN0] at h
      rcases hwid with rfl | rfl
      all_goals exact List.eq_nil_of_length_eq_zero (by omega)
    have HSTEP : Hid (stepP 45 (L p)[i + 1]? ⟨res, bits, seg, wid, decide (0 < i), list⟩ = none) := by
      show _ = _
      rw [decide_eq_true hpos]; exact step_sign_bad (.inr rfl) (fun h => absurd h (by decide)) (.inr hse)
    clear hse
    subst hN0
    go_wp2
    go_ret2
    exact err_post h0 (by rw [HN.out, ← HRA.out, HST.out, HSTEP.out]; rfl) (HB.out.alloc HB.out.size _) ⟨_, _, rfl⟩

set_option maxRecDepth 1000000 in
set_option maxHeartbeats 4000000 in
theorem round_minus_y (s p : ByteArray) (w wr : World) (v q e : Bool) (R : Option PSt) (U : Nat → Value) (K : Act → World → Prop) (h0 : 0 < s.size) (hs : s.size ≤ 4294967296) (hps : p.size ≤ s.size)
    (i : Nat) (hlt : i < p.size) (a : Nat) (res : Bool) (bits : Int) (seg : Bs) (wid : Nat) (hwid : wid = 1 ∨ wid = 4) (list : List Cond) (lv : Value) (hai : a ≤ i)
    (HN : Hid (newL (L s) = R.map fun st => ⟨v, q, e, st.list⟩)) (HSL : Hid (seg.length = i - a)) (HSH : Hid (a < i → seg.head? = (L p)[a]?)) (HRA : Hid (runAt (L p) i ⟨res, bits, seg, wid, decide (0 < i), list⟩ = R)) (HM : Hid (MatAt wr w.heap.size v q e lv)) (HROW : Hid (Row wr (w.heap.size + 1) 3 lv list.length (condCells list))) (HB : Hid (Below w.heap.size w wr)) (HLL : Hid (list.length ≤ i))
    (hc2 : bt p i = ((45 : UInt8).toNat : Int)) (HC : Hid ((L p)[i]? = some 45)) (HST : Hid (runAt (L p) i ⟨res, bits, seg, wid, decide (0 < i), list⟩ = (stepP 45 (L p)[i + 1]? ⟨res, bits, seg, wid, decide (0 < i), list⟩).bind (runAt (L p) (i + 1))))
    (hpos : 0 < i) (hbad : ¬ (64 < seg.length * wid ∨ seg = [])) (hdy : (bt p a == 121) = true) :
    Code.wp Try.prog body3 (Exit.then (fun a' w'' => WI s p w v q e R a' w'' ∧ Wmu p a' w'' < p.size + 1 - i) (Exit.inBlock 4 (Exit.then K (bodyPost Try.prog Try.f23 (NewPost s w))))) (Fr s p w.heap.size (.bool res) (.int .u64 bits) (.int .i64 a) (.int .i64 (wid : Nat)) (.int .i64 i) U) wr := by
  conv => arg 2; whnf
  simp only [Fr]
  have hbp := get_bt p
  simp at hc2
  go_upto_region 35 with (fail)
  go_cut [122] (fun bv wc => ∃ b : Bool, bv = .bool b ∧ wr = wc ∧ Hid (b = (decide (a = i) && decide (wid = 1) && (bt p i == 120))))
  case first =>
    by_cases hia : a = i
    · have hia1 : ((i : Int) == (a : Int)) = true := by simp <;> omega
      rcases hwid with rfl | rfl
      · go_wp2
        go_meet
        case rel => exact ⟨_, rfl, rfl, by show _ = _; first | (simp [hia]; done) | (rw [hc2]; simp [hia]; done)⟩
      · go_wp2
        go_meet
        case rel => exact ⟨_, rfl, rfl, by show _ = _; simp⟩
    · have hia1 : ((i : Int) == (a : Int)) = false := by simp <;> omega
      go_wp2
      go_meet
      case rel => exact ⟨_, rfl, rfl, by show _ = _; first | (simp [hia]; done) | (rw [hc2]; simp [hia]; done)⟩
  case rest =>
  obtain ⟨b0, rfl, rfl, HBV⟩ := hcut
  obtain rfl : b0 = false := by rw [HBV.out, hc2]; simp
  have hse : seg ≠ [] := fun h => hbad (.inr h)
  obtain ⟨N, hN, hNb, hNs⟩ := nprod HSL.out hai (by omega) hwid
  have HNS := Lib.hid hNs
  clear hNs
  have h64 : ¬ 64 < N := fun h => hbad (.inl (by rw [← HNS.out]; exact h))
  have hN0 : 0 < N := by
    rw [HNS.out]
    cases hsl : seg with
    | nil => exact absurd hsl hse
    | cons x r => rcases hwid with rfl | rfl <;> simp <;> omega
  have hlti : a < i := by
    have h2 := HSL.out
    cases hsl : seg with
    | nil => exact absurd hsl hse
    | cons x r => rw [hsl] at h2; simp at h2; omega
  obtain ⟨d, hd1, hd2, hd3⟩ := byte_at p a (by omega)
  clear hd3
  have hhd : seg.head? = some d := (HSH.out hlti).trans hd1
  have HST2 : Hid (stepP 45 (L p)[i + 1]? ⟨res, bits, seg, wid, decide (0 < i), list⟩ = some ⟨false, 0, [], 1, true, list ++ [⟨if some d = some 121 then 0 else maskI N, bits, res⟩]⟩) := by
    show _ = _
    rw [decide_eq_true hpos, ← hhd, HNS.out]; exact step_sign_ok (.inr rfl) (fun h => absurd h (by decide)) (by rw [← HNS.out]; exact h64) hse
  clear hse hhd hbad
  have hdd : d = 121 := by rw [hd2] at hdy; exact (u8_is (n := 121) (by omega)).1 (by simpa using hdy)
  have HSTEP : Hid (stepP 45 (L p)[i + 1]? ⟨res, bits, seg, wid, decide (0 < i), list⟩ = some ⟨false, 0, [], 1, true, list ++ [⟨0, bits, res⟩]⟩) := by
    show _ = _
    rw [HST2.out, hdd]; rfl
  clear hdd HST2 hd1 hd2
  obtain ⟨i0, ii, hz0, hz1, hz2⟩ := info_parts infoCond
  obtain ⟨mf, m0, m1, m2, m3⟩ := HM.out
  clear mf
  have k1 : list.length + 1 ≤ maxLen := by unfold maxLen; have := HLL.out; omega
  have k2 : (list.length + 1) * 24 ≤ 140737488355328 := by have := HLL.out; omega
  have HB1 := Lib.hid (HB.out.alloc HB.out.size (.cells #[.int .u64 (0), .int .u64 (bits), .bool res] 82))
  have HR1 := Lib.hid (HROW.out.alloc (.cells #[.int .u64 (0), .int .u64 (bits), .bool res] 82))
  have HM1 := Lib.hid (HM.out.alloc (.cells #[.int .u64 (0), .int .u64 (bits), .bool res] 82))
  have HS1 := Lib.hid (src3 (P := Try.prog) Try.underlying75 wr (.int .u64 (0)) (.int .u64 (bits)) (.bool res) rfl rfl rfl 82)
  have hB : w.heap.size + 1 ≤ (wr.alloc (.cells #[.int .u64 (0), .int .u64 (bits), .bool res] 82)).heap.size := by have := HM1.out.lt; omega
  go_wp2_with (at_builtin; refine wpList_append_row _ rfl (.tmp 259) (.tmp 264) 75 75 rfl (w.heap.size + 1) 82 i0 (.agg #[.int .u64 0, .int .u64 0, .bool false]) 3 24 Try.underlying75 ii hz0 hz1 hz2 rfl _ _ _ HR1.out rfl _ _ _ HS1.out rfl k1 k2 hB ?_; intro v2 w2 hrow2 hg2 hbk2; obtain ⟨ao2, cap2, rfl⟩ := hrow2.shape; clear m0 m1 m2 m3; have hm2 := HM1.out.grown hg2 (fun g hg => HR1.out.blk g hg); have HM2 := Lib.hid hm2; have HB2 := Lib.hid (HB1.out.grown hg2 HB1.out.size (fun g hg => Nat.le_of_succ_le (HR1.out.blk g hg))); have HROW2 := Lib.hid hrow2; obtain ⟨mf, m0, m1, m2, m3⟩ := hm2; have f3 := mf 3 (by omega); clear mf hrow2 hg2 hbk2)
  refine ⟨WI.mk2 _ _ _ _ _ rfl rfl rfl rfl rfl rfl rfl rfl rfl rfl ⟨i + 1, i + 1, false, 0, [], 1, list ++ [Cond.mk (0) (bits) res], _, by go_num, by omega, rfl, rfl, by go_num, Nat.le_refl _, rfl, .inl rfl, by show _ = _; simp, fun h => absurd h (by omega), ra_next HRA.out HST.out HSTEP.out, HM2.out.set3 _, (row_cond HROW2.out).setCell (p := ⟨w.heap.size, 3, none⟩) (fun e => Nat.not_succ_le_self _ (HROW2.out.blk _ e)) _, HB2.out.setCell (p := ⟨w.heap.size, 3, none⟩) (Nat.le_refl _) _, by show _ ≤ _; rw [List.length_append]; have := HLL.out; show list.length + 1 ≤ _; omega⟩, ?_⟩
  simp [Wmu, intOf] <;> omega

set_option maxRecDepth 1000000 in
set_option maxHeartbeats 4000000 in
theorem round_minus_n (s p : ByteArray) (w wr : World) (v q e : Bool) (R : Option PSt) (U : Nat → Value) (K : Act → World → Prop) (h0 : 0 < s.size) (hs : s.size ≤ 4294967296) (hps : p.size ≤ s.size)
    (i : Nat) (hlt : i < p.size) (a : Nat) (res : Bool) (bits : Int) (seg : Bs) (wid : Nat) (hwid : wid = 1 ∨ wid = 4) (list : List Cond) (lv : Value) (hai : a ≤ i)
    (HN : Hid (newL (L s) = R.map fun st => ⟨v, q, e, st.list⟩)) (HSL : Hid (seg.length = i - a)) (HSH : Hid (a < i → seg.head? = (L p)[a]?)) (HRA : Hid (runAt (L p) i ⟨res, bits, seg, wid, decide (0 < i), list⟩ = R)) (HM : Hid (MatAt wr w.heap.size v q e lv)) (HROW : Hid (Row wr (w.heap.size + 1) 3 lv list.length (condCells list))) (HB : Hid (Below w.heap.size w wr)) (HLL : Hid (list.length ≤ i))
    (hc2 : bt p i = ((45 : UInt8).toNat : Int)) (HC : Hid ((L p)[i]? = some 45)) (HST : Hid (runAt (L p) i ⟨res, bits, seg, wid, decide (0 < i), list⟩ = (stepP 45 (L p)[i + 1]? ⟨res, bits, seg, wid, decide (0 < i), list⟩).bind (runAt (L p) (i + 1))))
    (hpos : 0 < i) (hbad : ¬ (64 < seg.length * wid ∨ seg = [])) (hdy : (bt p a == 121) = false) :
    Code.wp Try.prog body3 (Exit.then (fun a' w'' => WI s p w v q e R a' w'' ∧ Wmu p a' w'' < p.size + 1 - i) (Exit.inBlock 4 (Exit.then K (bodyPost Try.prog Try.f23 (NewPost s w))))) (Fr s p w.heap.size (.bool res) (.int .u64 bits) (.int .i64 a) (.int .i64 (wid : Nat)) (.int .i64 i) U) wr := by
  conv => arg 2; whnf
  simp only [Fr]
  have hbp := get_bt p
  simp at hc2
  go_upto_region 35 with (fail)
  go_cut [122] (fun bv wc => ∃ b : Bool, bv = .bool b ∧ wr = wc ∧ Hid (b = (decide (a = i) && decide (wid = 1) && (bt p i == 120))))
  case first =>
    by_cases hia : a = i
    · have hia1 : ((i : Int) == (a : Int)) = true := by simp <;> omega
      rcases hwid with rfl | rfl
      · go_wp2
        go_meet
        case rel => exact ⟨_, rfl, rfl, by show _ = _; first | (simp [hia]; done) | (rw [hc2]; simp [hia]; done)⟩
      · go_wp2
        go_meet
        case rel => exact ⟨_, rfl, rfl, by show _ = _; simp⟩
    · have hia1 : ((i : Int) == (a : Int)) = false := by simp <;> omega
      go_wp2
      go_meet
      case rel => exact ⟨_, rfl, rfl, by show _ = _; first | (simp [hia]; done) | (rw [hc2]; simp [hia]; done)⟩
  case rest =>
  obtain ⟨b0, rfl, rfl, HBV⟩ := hcut
  obtain rfl : b0 = false := by rw [HBV.out, hc2]; simp
  have hse : seg ≠ [] := fun h => hbad (.inr h)
  obtain ⟨N, hN, hNb, hNs⟩ := nprod HSL.out hai (by omega) hwid
  have HNS := Lib.hid hNs
  clear hNs
  have h64 : ¬ 64 < N := fun h => hbad (.inl (by rw [← HNS.out]; exact h))
  have hN0 : 0 < N := by
    rw [HNS.out]
    cases hsl : seg with
    | nil => exact absurd hsl hse
    | cons x r => rcases hwid with rfl | rfl <;> simp <;> omega
  have hlti : a < i := by
    have h2 := HSL.out
    cases hsl : seg with
    | nil => exact absurd hsl hse
    | cons x r => rw [hsl] at h2; simp at h2; omega
  obtain ⟨d, hd1, hd2, hd3⟩ := byte_at p a (by omega)
  clear hd3
  have hhd : seg.head? = some d := (HSH.out hlti).trans hd1
  have HST2 : Hid (stepP 45 (L p)[i + 1]? ⟨res, bits, seg, wid, decide (0 < i), list⟩ = some ⟨false, 0, [], 1, true, list ++ [⟨if some d = some 121 then 0 else maskI N, bits, res⟩]⟩) := by
    show _ = _
    rw [decide_eq_true hpos, ← hhd, HNS.out]; exact step_sign_ok (.inr rfl) (fun h => absurd h (by decide)) (by rw [← HNS.out]; exact h64) hse
  clear hse hhd hbad
  have hdd : ¬ (some d = some (121 : UInt8)) := fun h => by
    cases h; rw [hd2] at hdy; simp at hdy
  have HSTEP : Hid (stepP 45 (L p)[i + 1]? ⟨res, bits, seg, wid, decide (0 < i), list⟩ = some ⟨false, 0, [], 1, true, list ++ [⟨maskI N, bits, res⟩]⟩) := by
    show _ = _
    rw [HST2.out, if_neg hdd]
  have hmk := mask_eq N h64
  clear hdd HST2 hd1 hd2
  obtain ⟨i0, ii, hz0, hz1, hz2⟩ := info_parts infoCond
  obtain ⟨mf, m0, m1, m2, m3⟩ := HM.out
  clear mf
  have k1 : list.length + 1 ≤ maxLen := by unfold maxLen; have := HLL.out; omega
  have k2 : (list.length + 1) * 24 ≤ 140737488355328 := by have := HLL.out; omega
  have HB1 := Lib.hid (HB.out.alloc HB.out.size (.cells #[.int .u64 (maskI N), .int .u64 (bits), .bool res] 82))
  have HR1 := Lib.hid (HROW.out.alloc (.cells #[.int .u64 (maskI N), .int .u64 (bits), .bool res] 82))
  have HM1 := Lib.hid (HM.out.alloc (.cells #[.int .u64 (maskI N), .int .u64 (bits), .bool res] 82))
  have HS1 := Lib.hid (src3 (P := Try.prog) Try.underlying75 wr (.int .u64 (maskI N)) (.int .u64 (bits)) (.bool res) rfl rfl rfl 82)
  have hB : w.heap.size + 1 ≤ (wr.alloc (.cells #[.int .u64 (maskI N), .int .u64 (bits), .bool res] 82)).heap.size := by have := HM1.out.lt; omega
  go_wp2_with (at_builtin; refine wpList_append_row _ rfl (.tmp 259) (.tmp 264) 75 75 rfl (w.heap.size + 1) 82 i0 (.agg #[.int .u64 0, .int .u64 0, .bool false]) 3 24 Try.underlying75 ii hz0 hz1 hz2 rfl _ _ _ HR1.out rfl _ _ _ HS1.out rfl k1 k2 hB ?_; intro v2 w2 hrow2 hg2 hbk2; obtain ⟨ao2, cap2, rfl⟩ := hrow2.shape; clear m0 m1 m2 m3; have hm2 := HM1.out.grown hg2 (fun g hg => HR1.out.blk g hg); have HM2 := Lib.hid hm2; have HB2 := Lib.hid (HB1.out.grown hg2 HB1.out.size (fun g hg => Nat.le_of_succ_le (HR1.out.blk g hg))); have HROW2 := Lib.hid hrow2; obtain ⟨mf, m0, m1, m2, m3⟩ := hm2; have f3 := mf 3 (by omega); clear mf hrow2 hg2 hbk2)
  refine ⟨WI.mk2 _ _ _ _ _ rfl rfl rfl rfl rfl rfl rfl rfl rfl rfl ⟨i + 1, i + 1, false, 0, [], 1, list ++ [Cond.mk (maskI N) (bits) res], _, by go_num, by omega, rfl, rfl, by go_num, Nat.le_refl _, rfl, .inl rfl, by show _ = _; simp, fun h => absurd h (by omega), ra_next HRA.out HST.out HSTEP.out, HM2.out.set3 _, (row_cond HROW2.out).setCell (p := ⟨w.heap.size, 3, none⟩) (fun e => Nat.not_succ_le_self _ (HROW2.out.blk _ e)) _, HB2.out.setCell (p := ⟨w.heap.size, 3, none⟩) (Nat.le_refl _) _, by show _ ≤ _; rw [List.length_append]; have := HLL.out; show list.length + 1 ≤ _; omega⟩, ?_⟩
  simp [Wmu, intOf] <;> omega

set_option maxRecDepth 1000000 in
set_option maxHeartbeats 4000000 in
theorem round_minus_first (s p : ByteArray) (w wr : World) (v q e : Bool) (R : Option PSt) (U : Nat → Value) (K : Act → World → Prop) (h0 : 0 < s.size) (hs : s.size ≤ 4294967296) (hps : p.size ≤ s.size)
    (i : Nat) (hlt : i < p.size) (a : Nat) (res : Bool) (bits : Int) (seg : Bs) (wid : Nat) (hwid : wid = 1 ∨ wid = 4) (list : List Cond) (lv : Value) (hai : a ≤ i)
    (HN : Hid (newL (L s) = R.map fun st => ⟨v, q, e, st.list⟩)) (HSL : Hid (seg.length = i - a)) (HSH : Hid (a < i → seg.head? = (L p)[a]?)) (HRA : Hid (runAt (L p) i ⟨res, bits, seg, wid, decide (0 < i), list⟩ = R)) (HM : Hid (MatAt wr w.heap.size v q e lv)) (HROW : Hid (Row wr (w.heap.size + 1) 3 lv list.length (condCells list))) (HB : Hid (Below w.heap.size w wr)) (HLL : Hid (list.length ≤ i))
    (hc2 : bt p i = ((45 : UInt8).toNat : Int)) (HC : Hid ((L p)[i]? = some 45)) (HST : Hid (runAt (L p) i ⟨res, bits, seg, wid, decide (0 < i), list⟩ = (stepP 45 (L p)[i + 1]? ⟨res, bits, seg, wid, decide (0 < i), list⟩).bind (runAt (L p) (i + 1))))
    (hi0 : i = 0) :
    Code.wp Try.prog body3 (Exit.then (fun a' w'' => WI s p w v q e R a' w'' ∧ Wmu p a' w'' < p.size + 1 - i) (Exit.inBlock 4 (Exit.then K (bodyPost Try.prog Try.f23 (NewPost s w))))) (Fr s p w.heap.size (.bool res) (.int .u64 bits) (.int .i64 a) (.int .i64 (wid : Nat)) (.int .i64 i) U) wr := by
  conv => arg 2; whnf
  simp only [Fr]
  have hbp := get_bt p
  subst hi0
  simp at hc2
  go_upto_region 35 with (fail)
  go_cut [122] (fun bv wc => ∃ b : Bool, bv = .bool b ∧ wr = wc ∧ Hid (b = (decide (a = 0) && decide (wid = 1) && (bt p 0 == 120))))
  case first =>
    by_cases hia : a = 0
    · have hia1 : (((0 : Nat) : Int) == (a : Int)) = true := by simp <;> omega
      rcases hwid with rfl | rfl
      · go_wp2
        go_meet
        case rel => exact ⟨_, rfl, rfl, by show _ = _; first | (simp [hia]; done) | (rw [hc2]; simp [hia]; done)⟩
      · go_wp2
        go_meet
        case rel => exact ⟨_, rfl, rfl, by show _ = _; simp⟩
    · exact absurd (Nat.le_zero.1 hai) hia
  case rest =>
  obtain ⟨b0, rfl, rfl, HBV⟩ := hcut
  obtain rfl : b0 = false := by rw [HBV.out, hc2]; simp
  have HSTEP : Hid (stepP 45 (L p)[0 + 1]? ⟨res, bits, seg, wid, decide (0 < 0), list⟩ = some ⟨false, 0, [], 1, true, list ++ [⟨0, 0, true⟩]⟩) := step_sign_first (.inr rfl) (fun h => absurd h (by decide))
  obtain ⟨i0, ii, hz0, hz1, hz2⟩ := info_parts infoCond
  obtain ⟨mf, m0, m1, m2, m3⟩ := HM.out
  clear mf
  have k1 : list.length + 1 ≤ maxLen := by unfold maxLen; have := HLL.out; omega
  have k2 : (list.length + 1) * 24 ≤ 140737488355328 := by have := HLL.out; omega
  have HB1 := Lib.hid (HB.out.alloc HB.out.size (.cells #[.int .u64 (0), .int .u64 (0), .bool true] 82))
  have HR1 := Lib.hid (HROW.out.alloc (.cells #[.int .u64 (0), .int .u64 (0), .bool true] 82))
  have HM1 := Lib.hid (HM.out.alloc (.cells #[.int .u64 (0), .int .u64 (0), .bool true] 82))
  have HS1 := Lib.hid (src3 (P := Try.prog) Try.underlying75 wr (.int .u64 (0)) (.int .u64 (0)) (.bool true) rfl rfl rfl 82)
  have hB : w.heap.size + 1 ≤ (wr.alloc (.cells #[.int .u64 (0), .int .u64 (0), .bool true] 82)).heap.size := by have := HM1.out.lt; omega
  go_wp2_with (at_builtin; refine wpList_append_row _ rfl (.tmp 274) (.tmp 276) 75 75 rfl (w.heap.size + 1) 82 i0 (.agg #[.int .u64 0, .int .u64 0, .bool false]) 3 24 Try.underlying75 ii hz0 hz1 hz2 rfl _ _ _ HR1.out rfl _ _ _ HS1.out rfl k1 k2 hB ?_; intro v2 w2 hrow2 hg2 hbk2; obtain ⟨ao2, cap2, rfl⟩ := hrow2.shape; clear m0 m1 m2 m3; have hm2 := HM1.out.grown hg2 (fun g hg => HR1.out.blk g hg); have HM2 := Lib.hid hm2; have HB2 := Lib.hid (HB1.out.grown hg2 HB1.out.size (fun g hg => Nat.le_of_succ_le (HR1.out.blk g hg))); have HROW2 := Lib.hid hrow2; obtain ⟨mf, m0, m1, m2, m3⟩ := hm2; have f3 := mf 3 (by omega); clear mf hrow2 hg2 hbk2)
  refine ⟨WI.mk2 _ _ _ _ _ rfl rfl rfl rfl rfl rfl rfl rfl rfl rfl ⟨0 + 1, 0 + 1, false, 0, [], 1, list ++ [Cond.mk (0) (0) true], _, by go_num, by omega, rfl, rfl, by go_num, Nat.le_refl _, rfl, .inl rfl, by show _ = _; simp, fun h => absurd h (by omega), ra_next HRA.out HST.out HSTEP.out, HM2.out.set3 _, (row_cond HROW2.out).setCell (p := ⟨w.heap.size, 3, none⟩) (fun e => Nat.not_succ_le_self _ (HROW2.out.blk _ e)) _, HB2.out.setCell (p := ⟨w.heap.size, 3, none⟩) (Nat.le_refl _) _, by show _ ≤ _; rw [List.length_append]; have := HLL.out; show list.length + 1 ≤ _; omega⟩, ?_⟩
  simp [Wmu, intOf] <;> omega

end Go.Proofs.Ytnjdckhaecdldaa
