/-
  The byte y of a round of bisect.New's main loop. For every text of at most 4294967296 bytes.
-/
import Derived.Test.YtnjdckhaecdldaaNewLoop
import Derived.Outline
import Derived.Deep.DeepCutAuto
import Derived.Deep.CutBlock
set_option linter.unusedVariables false
namespace Go.Proofs.Ytnjdckhaecdldaa
open Go.RowKit Go.PlainAid

set_option maxRecDepth 1000000 in
set_option maxHeartbeats 4000000 in
theorem round_y (s p : ByteArray) (w wr : World) (v q e : Bool) (R : Option PSt) (U : Nat → Value) (K : Act → World → Prop) (h0 : 0 < s.size) (hs : s.size ≤ 4294967296) (hps : p.size ≤ s.size)
    (i : Nat) (hlt : i < p.size) (a : Nat) (res : Bool) (bits : Int) (seg : Bs) (wid : Nat) (hwid : wid = 1 ∨ wid = 4) (list : List Cond) (lv : Value) (hai : a ≤ i)
    (HN : Hid (newL (L s) = R.map fun st => ⟨v, q, e, st.list⟩)) (HSL : Hid (seg.length = i - a)) (HSH : Hid (a < i → seg.head? = (L p)[a]?)) (HRA : Hid (runAt (L p) i ⟨res, bits, seg, wid, decide (0 < i), list⟩ = R)) (HM : Hid (MatAt wr w.heap.size v q e lv)) (HROW : Hid (Row wr (w.heap.size + 1) 3 lv list.length (condCells list))) (HB : Hid (Below w.heap.size w wr)) (HLL : Hid (list.length ≤ i))
    (hc2 : bt p i = ((121 : UInt8).toNat : Int)) (HC : Hid ((L p)[i]? = some 121)) (HST : Hid (runAt (L p) i ⟨res, bits, seg, wid, decide (0 < i), list⟩ = (stepP 121 (L p)[i + 1]? ⟨res, bits, seg, wid, decide (0 < i), list⟩).bind (runAt (L p) (i + 1))))
     :
    Code.wp Try.prog body3 (Exit.then (fun a' w'' => WI s p w v q e R a' w'' ∧ Wmu p a' w'' < p.size + 1 - i) (Exit.inBlock 4 (Exit.then K (bodyPost Try.prog Try.f23 (NewPost s w))))) (Fr s p w.heap.size (.bool res) (.int .u64 bits) (.int .i64 a) (.int .i64 (wid : Nat)) (.int .i64 i) U) wr := by
  conv => arg 2; whnf
  simp only [Fr]
  have hbp := get_bt p
  simp at hc2
  go_upto_region 35 with (fail)
  go_cut [122] (fun bv wc => ∃ b : Bool, bv = .bool b ∧ wr = wc ∧ Hid (b = (decide (a = i) && decide (wid = 1) && (bt p i == 120))))
  case first =>
    by_cases hia : a = i
    · have hia1 : ((i : Int) == (a : Int)) = true := by simp <;> omega
      rcases hwid with rfl | rfl
      · go_wp2
        go_meet
        case rel => exact ⟨_, rfl, rfl, by show _ = _; first | (simp [hia]; done) | (rw [hc2]; simp [hia]; done)⟩
      · go_wp2
        go_meet
        case rel => exact ⟨_, rfl, rfl, by show _ = _; simp⟩
    · have hia1 : ((i : Int) == (a : Int)) = false := by simp <;> omega
      go_wp2
      go_meet
      case rel => exact ⟨_, rfl, rfl, by show _ = _; first | (simp [hia]; done) | (rw [hc2]; simp [hia]; done)⟩
  case rest =>
  obtain ⟨b0, rfl, rfl, HBV⟩ := hcut
  obtain rfl : b0 = false := by rw [HBV.out, hc2]; simp
  by_cases hn : i + 1 < p.size
  · obtain ⟨d, hd1, hd2, hd3⟩ := byte_at p (i + 1) hn
    clear hd3
    cases h48 : (bt p (i + 1) == 48) with
    | true =>
      have hd : d = 48 := by rw [hd2] at h48; exact (u8_is (n := 48) (by omega)).1 (by simpa using h48)
      have HSTEP : Hid (stepP 121 (L p)[i + 1]? ⟨res, bits, seg, wid, decide (0 < i), list⟩ = none) := step_y_no (.inl (by rw [hd1, hd]))
      clear hd hd1 hd2
      go_wp2
      go_ret2
      exact err_post h0 (by rw [HN.out, ← HRA.out, HST.out, HSTEP.out]; rfl) (HB.out.alloc HB.out.size _) ⟨_, _, rfl⟩
    | false =>
      cases h49 : (bt p (i + 1) == 49) with
      | true =>
        have hd : d = 49 := by rw [hd2] at h49; exact (u8_is (n := 49) (by omega)).1 (by simpa using h49)
        have HSTEP : Hid (stepP 121 (L p)[i + 1]? ⟨res, bits, seg, wid, decide (0 < i), list⟩ = none) := step_y_no (.inr (by rw [hd1, hd]))
        clear hd hd1 hd2
        go_wp2
        go_ret2
        exact err_post h0 (by rw [HN.out, ← HRA.out, HST.out, HSTEP.out]; rfl) (HB.out.alloc HB.out.size _) ⟨_, _, rfl⟩
      | false =>
        have HSTEP : Hid (stepP 121 (L p)[i + 1]? ⟨res, bits, seg, wid, decide (0 < i), list⟩ = some ⟨res, 0, seg ++ [121], wid, true, list⟩) := step_y
          (fun h => by rw [hd1] at h; cases h; rw [hd2] at h48; simp at h48) (fun h => by rw [hd1] at h; cases h; rw [hd2] at h49; simp at h49)
        clear hd1 hd2
        go_wp2
        refine ⟨WI.mk2 _ _ _ _ _ rfl rfl rfl rfl rfl rfl rfl rfl rfl rfl ⟨i + 1, a, res, _, seg ++ [_], wid, list, lv, by go_num, by omega, rfl, rfl, rfl, by omega, rfl, hwid, push_len HSL.out hai, push_head HSL.out hai HSH.out HC.out, ra_next HRA.out HST.out HSTEP.out, HM.out, HROW.out, HB.out, Nat.le_succ_of_le HLL.out⟩, ?_⟩
        simp [Wmu, intOf] <;> omega
  · have HSTEP : Hid (stepP 121 (L p)[i + 1]? ⟨res, bits, seg, wid, decide (0 < i), list⟩ = some ⟨res, 0, seg ++ [121], wid, true, list⟩) := step_y
      (fun h => by rw [List.getElem?_eq_none (by rw [L_len]; omega)] at h; cases h) (fun h => by rw [List.getElem?_eq_none (by rw [L_len]; omega)] at h; cases h)
    go_wp2
    refine ⟨WI.mk2 _ _ _ _ _ rfl rfl rfl rfl rfl rfl rfl rfl rfl rfl ⟨i + 1, a, res, _, seg ++ [_], wid, list, lv, by go_num, by omega, rfl, rfl, rfl, by omega, rfl, hwid, push_len HSL.out hai, push_head HSL.out hai HSH.out HC.out, ra_next HRA.out HST.out HSTEP.out, HM.out, HROW.out, HB.out, Nat.le_succ_of_le HLL.out⟩, ?_⟩
    simp [Wmu, intOf] <;> omega

end Go.Proofs.Ytnjdckhaecdldaa
