/-
  The contract of sort.symMerge over a row of edits: two sorted stretches side by side become one. For every row.
-/
import Derived.Test.YtboiigeomgdkjaaIns
import Derived.Test.YtboiigeomgdkjaaRot
import Derived.Test.YtboiigeomgdkjaaMergePlain
set_option linter.unusedVariables false
set_option maxHeartbeats 4000000
set_option maxRecDepth 100000
namespace Go.Proofs.Ytboiigeomgdkjaa
open Go.RowKit Go.PlainAid Go.Lib

section
variable {α : Type} {lt : α → α → Bool} {f g1 g2 : Nat → α} {a m b mid s e : Nat}
theorem Cut.k1 (O : Ord lt) (h : Cut lt f a m b mid s e) (h1 : Srt lt a m f) (h2 : Srt lt m b f) (hsm : s ≤ mid) (hn : ¬ (a < s ∧ s < mid)) : Sd lt a mid (rot f s m e) (rot f s m e) := by
  obtain ⟨k1, k2, k3, k4⟩ := h.first O h1 h2
  have := h.as
  refine Sd.none ?_
  by_cases hs : s = a
  · subst hs; exact k2
  · obtain rfl : s = mid := by omega
    exact k1
theorem Cut.k2 (O : Ord lt) (h : Cut lt f a m b mid s e) (h1 : Srt lt a m f) (h2 : Srt lt m b f) (hme : mid ≤ e) (hg : Sd lt a mid (rot f s m e) g1) : Srt lt mid e g1 ∧ Srt lt e b g1 := by
  obtain ⟨k1, k2, k3, k4⟩ := h.first O h1 h2
  exact ⟨k3.congr fun k hk _ => hg.1.out (.inr hk), k4.congr fun k hk _ => hg.1.out (.inr (by omega))⟩
theorem Cut.k3 (O : Ord lt) (h : Cut lt f a m b mid s e) (h1 : Srt lt a m f) (h2 : Srt lt m b f) (hme : mid ≤ e) (hg : Sd lt a mid (rot f s m e) g1) (hn : ¬ (mid < e ∧ e < b)) : Sd lt mid b g1 g1 := by
  obtain ⟨k3, k4⟩ := h.k2 O h1 h2 hme hg
  have := h.eb
  refine Sd.none ?_
  by_cases hs : e = mid
  · subst hs; exact k4
  · obtain rfl : e = b := by omega
    exact k3
theorem Cut.fin (O : Ord lt) (h : Cut lt f a m b mid s e) (h1 : Srt lt a m f) (h2 : Srt lt m b f) (ham : a ≤ mid) (hmb : mid ≤ b) (hsm : s ≤ mid) (hme : mid ≤ e) (k1 : Sd lt a mid (rot f s m e) g1) (k2 : Sd lt mid b g1 g2) : Sd lt a b f g2 :=
  h.whole O ham hmb hsm hme h1 h2 k1.1 k1.2.1 k1.2.2 k2.1 k2.2.1 k2.2.2
end
theorem i64e {a b : Int} (h : a = b) : Value.int .i64 a = .int .i64 b := by rw [h]
/-- what a step of the sort leaves, in short -/
def SM (w : World) (b o n a e : Nat) (f : Nat → St) (ex : Ending) (w' : World) : Prop :=
  ex = .returned (.tuple #[]) ∧ ∃ g, Q w' b o n g ∧ Sd ltE a e f g ∧ GB w w' b
theorem SP.sm {w : World} {b o n a e : Nat} {f : Nat → St} {ex : Ending} {w' : World} (h : SP w b o n a e f ex w') : SM w b o n a e f ex w' :=
  let ⟨h1, g, h2, h3, h4, h5, h6⟩ := h
  ⟨h1, g, h2, ⟨h3, h4, h5⟩, h6⟩

theorem sym_one (w : World) (b o n c : Nat) (f : Nat → St) (a e : Nat) (hae : a + 1 < e) (he : e ≤ n) (hn : n ≤ 4294967296) (hs : Srt ltE (a + 1) e f) (h : Q w b o n f) :
    Calls Try.prog 39 #[.iface 54 (.slice (some ⟨b, o, none⟩) n c), .int .i64 a, .int .i64 ((a : Int) + 1), .int .i64 e] w (SM w b o n a e f) := by
  have mL := reach_less (some ⟨b, o, none⟩) n c
  have mS := reach_swap (some ⟨b, o, none⟩) n c
  have HQ := Lib.hid h
  have HS := Lib.hid hs
  clear h hs
  have e1 : ((a : Int) + 1 - a == 1) = true := by simp; omega
  go_enter Try.func39, Try.ntmps39
  go_wp2
  go_loopw [8, 9] (fun iv jv wr => ∃ (i j q : Nat), iv = .int .i64 i ∧ jv = .int .i64 j ∧ Hid (Sea (fun k => ltE (f k) (f a)) (a + 1) e i j) ∧ wr = w.drewN q) (fun iv jv _ => (intOf jv).toNat - (intOf iv).toNat)
  case atStart => exact ⟨a + 1, e, 0, by go_num, rfl, Sea.start (by omega), rfl⟩
  case round =>
    obtain ⟨i, j, q, rfl, rfl, HI, rfl⟩ := hrel
    have i1 : a + 1 ≤ i := HI.out.1
    have i2 : i ≤ j := HI.out.2.1
    have i3 : j ≤ e := HI.out.2.2.1
    by_cases hlt : i < j
    · have hl := less_any (w.drewN q) b o n c f ((i + j) / 2) a (by omega) (by omega) hn (HQ.out.drewN q)
      rw [show (((i + j) / 2 : Nat) : Int) = ((i : Int) + j) / 2 by omega] at hl
      cases hv : ltE (f ((i + j) / 2)) (f a) with
      | true =>
        rw [hv] at hl
        have HV := Lib.hid hv
        clear hv
        go_wp2_with fail
        refine hl.mono ?_
        rintro ex w' ⟨rfl, q2, rfl⟩
        clear hl
        go_wp2_with fail
        go_roundw
        case rel => exact ⟨(i + j) / 2 + 1, j, _, i64e (by omega), rfl, HI.out.up (by omega) (by omega) HV.out, rfl⟩
        case measure => simp [intOf]; omega
      | false =>
        rw [hv] at hl
        have HV := Lib.hid hv
        clear hv
        go_wp2_with fail
        refine hl.mono ?_
        rintro ex w' ⟨rfl, q2, rfl⟩
        clear hl
        go_wp2_with fail
        go_roundw
        case rel => exact ⟨i, (i + j) / 2, _, rfl, i64e (by omega), HI.out.down (by omega) (by omega) HV.out, rfl⟩
        case measure => simp [intOf]; omega
    · obtain rfl : i = j := by omega
      have HSD := Lib.hid (HI.out.upf_end ordE hae HS.out)
      clear HI HS
      go_wp2
      go_loopw [11] (fun kv wr => ∃ k : Nat, kv = .int .i64 k ∧ a ≤ k ∧ k ≤ i - 1 ∧ Hid (Q wr b o n (upf f a k) ∧ GB w wr b)) (fun kv _ => i - (intOf kv).toNat)
      case atStart => exact ⟨a, rfl, Nat.le_refl _, by omega, by rw [upf_zero]; exact HQ.out.drewN q, grow_drewN _ _ _⟩
      case round =>
        clear HQ
        obtain ⟨k, rfl, hak, hki, HK⟩ := hrel
        by_cases hkl : k < i - 1
        · have hkl' : (k : Int) < (i : Int) - 1 := by omega
          have hsw := swap_any wr b o n c _ k (k + 1) (by omega) (by omega) (by omega) hn HK.out.1
          rw [show ((k + 1 : Nat) : Int) = (k : Int) + 1 by omega, upf_succ _ _ _ hak] at hsw
          go_wp2_with fail
          refine hsw.mono ?_
          rintro ex w' ⟨rfl, hq2, hg2⟩
          clear hsw
          go_wp2_with fail
          go_roundw
          case rel => exact ⟨k + 1, by go_num, by omega, by omega, hq2, grow_trans HK.out.2 hg2⟩
          case measure => simp [intOf]; omega
        · have hkl' : ¬ ((k : Int) < (i : Int) - 1) := by omega
          go_wp2_with fail
          go_end0
          obtain rfl : k = i - 1 := by omega
          exact ⟨rfl, _, HK.out.1, HSD.out, HK.out.2⟩

theorem sym_two (w : World) (b o n c : Nat) (f : Nat → St) (a m : Nat) (ham : a + 1 < m) (he : m + 1 ≤ n) (hn : n ≤ 4294967296) (hs : Srt ltE a m f) (h : Q w b o n f) :
    Calls Try.prog 39 #[.iface 54 (.slice (some ⟨b, o, none⟩) n c), .int .i64 a, .int .i64 m, .int .i64 ((m : Int) + 1)] w (SM w b o n a (m + 1) f) := by
  have mL := reach_less (some ⟨b, o, none⟩) n c
  have mS := reach_swap (some ⟨b, o, none⟩) n c
  have HQ := Lib.hid h
  have HS := Lib.hid hs
  clear h hs
  have e1 : ((m : Int) - a == 1) = false := by simp; omega
  have e2 : ((m : Int) + 1 - m == 1) = true := by simp; omega
  go_enter Try.func39, Try.ntmps39
  go_wp2
  go_loopw [12, 13] (fun iv jv wr => ∃ (i j q : Nat), iv = .int .i64 i ∧ jv = .int .i64 j ∧ Hid (Sea (fun k => !ltE (f m) (f k)) a m i j) ∧ wr = w.drewN q) (fun iv jv _ => (intOf jv).toNat - (intOf iv).toNat)
  case atStart => exact ⟨a, m, 0, rfl, rfl, Sea.start (by omega), rfl⟩
  case round =>
    obtain ⟨i, j, q, rfl, rfl, HI, rfl⟩ := hrel
    have i1 : a ≤ i := HI.out.1
    have i2 : i ≤ j := HI.out.2.1
    have i3 : j ≤ m := HI.out.2.2.1
    by_cases hlt : i < j
    · have hl := less_any (w.drewN q) b o n c f m ((i + j) / 2) (by omega) (by omega) hn (HQ.out.drewN q)
      rw [show (((i + j) / 2 : Nat) : Int) = ((i : Int) + j) / 2 by omega] at hl
      cases hv : ltE (f m) (f ((i + j) / 2)) with
      | false =>
        rw [hv] at hl
        have HV := Lib.hid hv
        clear hv
        go_wp2_with fail
        refine hl.mono ?_
        rintro ex w' ⟨rfl, q2, rfl⟩
        clear hl
        go_wp2_with fail
        go_roundw
        case rel => exact ⟨(i + j) / 2 + 1, j, _, i64e (by omega), rfl, HI.out.up (by omega) (by omega) (by simp [HV.out]), rfl⟩
        case measure => simp [intOf]; omega
      | true =>
        rw [hv] at hl
        have HV := Lib.hid hv
        clear hv
        go_wp2_with fail
        refine hl.mono ?_
        rintro ex w' ⟨rfl, q2, rfl⟩
        clear hl
        go_wp2_with fail
        go_roundw
        case rel => exact ⟨i, (i + j) / 2, _, rfl, i64e (by omega), HI.out.down (by omega) (by omega) (by simp [HV.out]), rfl⟩
        case measure => simp [intOf]; omega
    · obtain rfl : i = j := by omega
      have HSD := Lib.hid (HI.out.dnf_end ordE HS.out)
      clear HI HS
      go_wp2
      go_loopw [15] (fun kv wr => ∃ k : Nat, kv = .int .i64 k ∧ i ≤ k ∧ k ≤ m ∧ Hid (Q wr b o n (dnf f m k) ∧ GB w wr b)) (fun kv _ => (intOf kv).toNat)
      case atStart => exact ⟨m, rfl, by omega, Nat.le_refl _, by rw [dnf_zero]; exact HQ.out.drewN q, grow_drewN _ _ _⟩
      case round =>
        clear HQ
        obtain ⟨k, rfl, hik, hkm, HK⟩ := hrel
        by_cases hkl : i < k
        · have hsw := swap_any wr b o n c _ k (k - 1) (by omega) (by omega) (by omega) hn HK.out.1
          rw [show ((k - 1 : Nat) : Int) = (k : Int) - 1 by omega, dnf_succ _ _ _ hkm (by omega)] at hsw
          go_wp2_with fail
          refine hsw.mono ?_
          rintro ex w' ⟨rfl, hq2, hg2⟩
          clear hsw
          go_wp2_with fail
          go_roundw
          case rel => exact ⟨k - 1, i64e (by omega), by omega, by omega, hq2, grow_trans HK.out.2 hg2⟩
          case measure => simp [intOf]; omega
        · go_wp2_with fail
          go_end0
          obtain rfl : k = i := by omega
          exact ⟨rfl, _, HK.out.1, HSD.out, HK.out.2⟩

end Go.Proofs.Ytboiigeomgdkjaa
