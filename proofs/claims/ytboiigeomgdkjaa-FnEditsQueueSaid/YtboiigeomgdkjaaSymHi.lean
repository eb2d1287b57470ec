/-
  The general way of sort.symMerge, the middle within the first stretch. For every row.
-/
import Derived.Test.YtboiigeomgdkjaaSym
set_option linter.unusedVariables false
set_option maxHeartbeats 8000000
set_option maxRecDepth 100000
namespace Go.Proofs.Ytboiigeomgdkjaa
open Go.RowKit Go.PlainAid Go.Lib
theorem sym_hi (N : Nat) (b o n c : Nat) (hn : n ≤ 4294967296)
    (ih : ∀ (w : World) (f : Nat → St) (a m e : Nat), e - a ≤ N → a < m → m < e → e ≤ n → Srt ltE a m f → Srt ltE m e f → Q w b o n f → Calls Try.prog 39 #[.iface 54 (.slice (some ⟨b, o, none⟩) n c), .int .i64 a, .int .i64 m, .int .i64 e] w (SM w b o n a e f))
    (w : World) (f : Nat → St) (a m e mid : Nat) (hN : e - a ≤ N + 1) (ham : a + 1 < m) (hme : m + 1 < e) (he : e ≤ n) (hmid : mid = (a + e) / 2) (hm : mid < m) (hs1 : Srt ltE a m f) (hs2 : Srt ltE m e f) (h : Q w b o n f) :
    Calls Try.prog 39 #[.iface 54 (.slice (some ⟨b, o, none⟩) n c), .int .i64 a, .int .i64 m, .int .i64 e] w (SM w b o n a e f) := by
  have mL := reach_less (some ⟨b, o, none⟩) n c
  have HQ := Lib.hid h
  have HS1 := Lib.hid hs1
  have HS2 := Lib.hid hs2
  have HI := Lib.hid ih
  clear h hs1 hs2 ih
  have e1 : ((m : Int) - a == 1) = false := by simp; omega
  have e2 : ((e : Int) - m == 1) = false := by simp; omega
  have hM : ((a : Int) + e) / 2 = (mid : Int) := by omega
  have m1 : a + 1 ≤ mid := by omega
  have m2 : mid + 1 ≤ e := by omega
  have m3 : 2 * mid ≤ a + e := by omega
  have m4 : a + e ≤ 2 * mid + 1 := by omega
  have HMID := Lib.hid hmid
  clear hmid
  go_enter Try.func39, Try.ntmps39
  go_wp2
  clear e1 e2 hM
  go_loopw [18, 19] (fun sv rv wr => ∃ (s r q : Nat), sv = .int .i64 s ∧ rv = .int .i64 r ∧ Hid (Sea (fun k => !ltE (f (mid + m - 1 - k)) (f k)) (mid + m - e) mid s r) ∧ wr = w.drewN q) (fun sv rv _ => (intOf rv).toNat - (intOf sv).toNat)
  case atStart => exact ⟨(mid + m - e), mid, 0, i64e (by omega), i64e (by omega), Sea.start (by omega), rfl⟩
  case round =>
    obtain ⟨s, r, q, rfl, rfl, HE, rfl⟩ := hrel
    have i1 : (mid + m - e) ≤ s := HE.out.1
    have i2 : s ≤ r := HE.out.2.1
    have i3 : r ≤ mid := HE.out.2.2.1
    by_cases hlt : s < r
    · have hl := less_any (w.drewN q) b o n c f (mid + m - 1 - (s + r) / 2) ((s + r) / 2) (by omega) (by omega) hn (HQ.out.drewN q)
      rw [show ((mid + m - 1 - (s + r) / 2 : Nat) : Int) = (mid : Int) + m - 1 - ((s : Int) + r) / 2 by omega, show (((s + r) / 2 : Nat) : Int) = ((s : Int) + r) / 2 by omega] at hl
      cases hv : ltE (f (mid + m - 1 - (s + r) / 2)) (f ((s + r) / 2)) with
      | false =>
        rw [hv] at hl
        have HV := Lib.hid hv
        clear hv
        go_wp2_with fail
        refine hl.mono ?_
        rintro ex w' ⟨rfl, q2, rfl⟩
        clear hl
        go_wp2_with fail
        go_roundw
        case rel => exact ⟨(s + r) / 2 + 1, r, _, i64e (by omega), rfl, HE.out.up (by omega) (by omega) (by simp [HV.out]), rfl⟩
        case measure => simp [intOf]; omega
      | true =>
        rw [hv] at hl
        have HV := Lib.hid hv
        clear hv
        go_wp2_with fail
        refine hl.mono ?_
        rintro ex w' ⟨rfl, q2, rfl⟩
        clear hl
        go_wp2_with fail
        go_roundw
        case rel => exact ⟨s, (s + r) / 2, _, rfl, i64e (by omega), HE.out.down (by omega) (by omega) (by simp [HV.out]), rfl⟩
        case measure => simp [intOf]; omega
    · obtain rfl : s = r := by omega
      have HC := Lib.hid (Sea.cut_hi (a := a) (b := e) (by omega) (by omega) HMID.out hm HE.out)
      clear HE mL
      obtain ⟨E, hE⟩ : ∃ E : Nat, E = mid + m - s := ⟨_, rfl⟩
      rw [← hE] at HC
      have hEi : (mid : Int) + m - s = (E : Int) := by omega
      have c1 : a ≤ s := HC.out.as
      have c2 : s ≤ m := HC.out.sm
      have c3 : m ≤ E := HC.out.me
      have c4 : E ≤ e := HC.out.eb
      have c5 : s ≤ mid := by omega
      have c6 : mid ≤ E := by omega
      have HQ0 := Lib.hid (HQ.out.drewN q)
      have HG0 := Lib.hid (grow_drewN w q b)
      have HE := Lib.hid hE
      clear hE HQ HMID
      generalize w.drewN q = w0 at *
      by_cases d1 : s < m ∧ m < E
      · obtain ⟨d1a, d1b⟩ := d1
        by_cases d2 : a < s ∧ s < mid
        · obtain ⟨d2a, d2b⟩ := d2
          by_cases d3 : mid < E ∧ E < e
          · obtain ⟨d3a, d3b⟩ := d3
            have hrot := rotate_any w0 b o n c f s m E (by omega) (by omega) (by omega) hn HQ0.out
            go_wp2_with fail
            refine hrot.mono ?_
            rintro ex w1 ⟨rfl, hq1, hm1, hg1⟩
            have HQ1 := Lib.hid hq1
            have HG1 := Lib.hid (grow_trans HG0.out hg1)
            clear hrot hq1 hm1 hg1
            have hsy := HI.out w1 _ a s mid (by omega) (by omega) (by omega) (by omega) (HC.out.first ordE HS1.out HS2.out).1 (HC.out.first ordE HS1.out HS2.out).2.1 HQ1.out
            go_wp2_with fail
            refine hsy.mono ?_
            rintro ex w2 ⟨rfl, g1, hq2, hd2, hg2⟩
            have HQ2 := Lib.hid hq2
            have HD2 := Lib.hid hd2
            have HG2 := Lib.hid (grow_trans HG1.out hg2)
            clear hsy hq2 hd2 hg2
            have hsy := HI.out w2 _ mid E e (by omega) (by omega) (by omega) (by omega) (HC.out.k2 ordE HS1.out HS2.out c6 HD2.out).1 (HC.out.k2 ordE HS1.out HS2.out c6 HD2.out).2 HQ2.out
            go_wp2_with fail
            refine hsy.mono ?_
            rintro ex w3 ⟨rfl, g2, hq3, hd3, hg3⟩
            have HQ3 := Lib.hid hq3
            have HD3 := Lib.hid hd3
            have HG3 := Lib.hid (grow_trans HG2.out hg3)
            clear hsy hq3 hd3 hg3
            go_wp2_with fail
            go_end0
            exact ⟨rfl, _, HQ3.out, HC.out.fin ordE HS1.out HS2.out (by omega) (by omega) c5 c6 HD2.out HD3.out, HG3.out⟩
          · by_cases d3a : mid < E
            · have d3b : ¬ (E < e) := fun hh => d3 ⟨d3a, hh⟩
              have hrot := rotate_any w0 b o n c f s m E (by omega) (by omega) (by omega) hn HQ0.out
              go_wp2_with fail
              refine hrot.mono ?_
              rintro ex w1 ⟨rfl, hq1, hm1, hg1⟩
              have HQ1 := Lib.hid hq1
              have HG1 := Lib.hid (grow_trans HG0.out hg1)
              clear hrot hq1 hm1 hg1
              have hsy := HI.out w1 _ a s mid (by omega) (by omega) (by omega) (by omega) (HC.out.first ordE HS1.out HS2.out).1 (HC.out.first ordE HS1.out HS2.out).2.1 HQ1.out
              go_wp2_with fail
              refine hsy.mono ?_
              rintro ex w2 ⟨rfl, g1, hq2, hd2, hg2⟩
              have HQ2 := Lib.hid hq2
              have HD2 := Lib.hid hd2
              have HG2 := Lib.hid (grow_trans HG1.out hg2)
              clear hsy hq2 hd2 hg2
              have HQ3 := HQ2
              have HD3 := Lib.hid (HC.out.k3 ordE HS1.out HS2.out c6 HD2.out d3)
              have HG3 := HG2
              go_wp2_with fail
              go_end0
              exact ⟨rfl, _, HQ3.out, HC.out.fin ordE HS1.out HS2.out (by omega) (by omega) c5 c6 HD2.out HD3.out, HG3.out⟩
            · skip
              have hrot := rotate_any w0 b o n c f s m E (by omega) (by omega) (by omega) hn HQ0.out
              go_wp2_with fail
              refine hrot.mono ?_
              rintro ex w1 ⟨rfl, hq1, hm1, hg1⟩
              have HQ1 := Lib.hid hq1
              have HG1 := Lib.hid (grow_trans HG0.out hg1)
              clear hrot hq1 hm1 hg1
              have hsy := HI.out w1 _ a s mid (by omega) (by omega) (by omega) (by omega) (HC.out.first ordE HS1.out HS2.out).1 (HC.out.first ordE HS1.out HS2.out).2.1 HQ1.out
              go_wp2_with fail
              refine hsy.mono ?_
              rintro ex w2 ⟨rfl, g1, hq2, hd2, hg2⟩
              have HQ2 := Lib.hid hq2
              have HD2 := Lib.hid hd2
              have HG2 := Lib.hid (grow_trans HG1.out hg2)
              clear hsy hq2 hd2 hg2
              have HQ3 := HQ2
              have HD3 := Lib.hid (HC.out.k3 ordE HS1.out HS2.out c6 HD2.out d3)
              have HG3 := HG2
              go_wp2_with fail
              go_end0
              exact ⟨rfl, _, HQ3.out, HC.out.fin ordE HS1.out HS2.out (by omega) (by omega) c5 c6 HD2.out HD3.out, HG3.out⟩
        · by_cases d2a : a < s
          · have d2b : ¬ (s < mid) := fun hh => d2 ⟨d2a, hh⟩
            by_cases d3 : mid < E ∧ E < e
            · obtain ⟨d3a, d3b⟩ := d3
              have hrot := rotate_any w0 b o n c f s m E (by omega) (by omega) (by omega) hn HQ0.out
              go_wp2_with fail
              refine hrot.mono ?_
              rintro ex w1 ⟨rfl, hq1, hm1, hg1⟩
              have HQ1 := Lib.hid hq1
              have HG1 := Lib.hid (grow_trans HG0.out hg1)
              clear hrot hq1 hm1 hg1
              have HQ2 := HQ1
              have HD2 := Lib.hid (HC.out.k1 ordE HS1.out HS2.out c5 d2)
              have HG2 := HG1
              have hsy := HI.out w1 _ mid E e (by omega) (by omega) (by omega) (by omega) (HC.out.k2 ordE HS1.out HS2.out c6 HD2.out).1 (HC.out.k2 ordE HS1.out HS2.out c6 HD2.out).2 HQ2.out
              go_wp2_with fail
              refine hsy.mono ?_
              rintro ex w3 ⟨rfl, g2, hq3, hd3, hg3⟩
              have HQ3 := Lib.hid hq3
              have HD3 := Lib.hid hd3
              have HG3 := Lib.hid (grow_trans HG2.out hg3)
              clear hsy hq3 hd3 hg3
              go_wp2_with fail
              go_end0
              exact ⟨rfl, _, HQ3.out, HC.out.fin ordE HS1.out HS2.out (by omega) (by omega) c5 c6 HD2.out HD3.out, HG3.out⟩
            · by_cases d3a : mid < E
              · have d3b : ¬ (E < e) := fun hh => d3 ⟨d3a, hh⟩
                have hrot := rotate_any w0 b o n c f s m E (by omega) (by omega) (by omega) hn HQ0.out
                go_wp2_with fail
                refine hrot.mono ?_
                rintro ex w1 ⟨rfl, hq1, hm1, hg1⟩
                have HQ1 := Lib.hid hq1
                have HG1 := Lib.hid (grow_trans HG0.out hg1)
                clear hrot hq1 hm1 hg1
                have HQ2 := HQ1
                have HD2 := Lib.hid (HC.out.k1 ordE HS1.out HS2.out c5 d2)
                have HG2 := HG1
                have HQ3 := HQ2
                have HD3 := Lib.hid (HC.out.k3 ordE HS1.out HS2.out c6 HD2.out d3)
                have HG3 := HG2
                go_wp2_with fail
                go_end0
                exact ⟨rfl, _, HQ3.out, HC.out.fin ordE HS1.out HS2.out (by omega) (by omega) c5 c6 HD2.out HD3.out, HG3.out⟩
              · skip
                have hrot := rotate_any w0 b o n c f s m E (by omega) (by omega) (by omega) hn HQ0.out
                go_wp2_with fail
                refine hrot.mono ?_
                rintro ex w1 ⟨rfl, hq1, hm1, hg1⟩
                have HQ1 := Lib.hid hq1
                have HG1 := Lib.hid (grow_trans HG0.out hg1)
                clear hrot hq1 hm1 hg1
                have HQ2 := HQ1
                have HD2 := Lib.hid (HC.out.k1 ordE HS1.out HS2.out c5 d2)
                have HG2 := HG1
                have HQ3 := HQ2
                have HD3 := Lib.hid (HC.out.k3 ordE HS1.out HS2.out c6 HD2.out d3)
                have HG3 := HG2
                go_wp2_with fail
                go_end0
                exact ⟨rfl, _, HQ3.out, HC.out.fin ordE HS1.out HS2.out (by omega) (by omega) c5 c6 HD2.out HD3.out, HG3.out⟩
          · skip
            by_cases d3 : mid < E ∧ E < e
            · obtain ⟨d3a, d3b⟩ := d3
              have hrot := rotate_any w0 b o n c f s m E (by omega) (by omega) (by omega) hn HQ0.out
              go_wp2_with fail
              refine hrot.mono ?_
              rintro ex w1 ⟨rfl, hq1, hm1, hg1⟩
              have HQ1 := Lib.hid hq1
              have HG1 := Lib.hid (grow_trans HG0.out hg1)
              clear hrot hq1 hm1 hg1
              have HQ2 := HQ1
              have HD2 := Lib.hid (HC.out.k1 ordE HS1.out HS2.out c5 d2)
              have HG2 := HG1
              have hsy := HI.out w1 _ mid E e (by omega) (by omega) (by omega) (by omega) (HC.out.k2 ordE HS1.out HS2.out c6 HD2.out).1 (HC.out.k2 ordE HS1.out HS2.out c6 HD2.out).2 HQ2.out
              go_wp2_with fail
              refine hsy.mono ?_
              rintro ex w3 ⟨rfl, g2, hq3, hd3, hg3⟩
              have HQ3 := Lib.hid hq3
              have HD3 := Lib.hid hd3
              have HG3 := Lib.hid (grow_trans HG2.out hg3)
              clear hsy hq3 hd3 hg3
              go_wp2_with fail
              go_end0
              exact ⟨rfl, _, HQ3.out, HC.out.fin ordE HS1.out HS2.out (by omega) (by omega) c5 c6 HD2.out HD3.out, HG3.out⟩
            · by_cases d3a : mid < E
              · have d3b : ¬ (E < e) := fun hh => d3 ⟨d3a, hh⟩
                have hrot := rotate_any w0 b o n c f s m E (by omega) (by omega) (by omega) hn HQ0.out
                go_wp2_with fail
                refine hrot.mono ?_
                rintro ex w1 ⟨rfl, hq1, hm1, hg1⟩
                have HQ1 := Lib.hid hq1
                have HG1 := Lib.hid (grow_trans HG0.out hg1)
                clear hrot hq1 hm1 hg1
                have HQ2 := HQ1
                have HD2 := Lib.hid (HC.out.k1 ordE HS1.out HS2.out c5 d2)
                have HG2 := HG1
                have HQ3 := HQ2
                have HD3 := Lib.hid (HC.out.k3 ordE HS1.out HS2.out c6 HD2.out d3)
                have HG3 := HG2
                go_wp2_with fail
                go_end0
                exact ⟨rfl, _, HQ3.out, HC.out.fin ordE HS1.out HS2.out (by omega) (by omega) c5 c6 HD2.out HD3.out, HG3.out⟩
              · skip
                have hrot := rotate_any w0 b o n c f s m E (by omega) (by omega) (by omega) hn HQ0.out
                go_wp2_with fail
                refine hrot.mono ?_
                rintro ex w1 ⟨rfl, hq1, hm1, hg1⟩
                have HQ1 := Lib.hid hq1
                have HG1 := Lib.hid (grow_trans HG0.out hg1)
                clear hrot hq1 hm1 hg1
                have HQ2 := HQ1
                have HD2 := Lib.hid (HC.out.k1 ordE HS1.out HS2.out c5 d2)
                have HG2 := HG1
                have HQ3 := HQ2
                have HD3 := Lib.hid (HC.out.k3 ordE HS1.out HS2.out c6 HD2.out d3)
                have HG3 := HG2
                go_wp2_with fail
                go_end0
                exact ⟨rfl, _, HQ3.out, HC.out.fin ordE HS1.out HS2.out (by omega) (by omega) c5 c6 HD2.out HD3.out, HG3.out⟩
      · by_cases d1a : s < m
        · have d1b : ¬ (m < E) := fun hh => d1 ⟨d1a, hh⟩
          by_cases d2 : a < s ∧ s < mid
          · obtain ⟨d2a, d2b⟩ := d2
            by_cases d3 : mid < E ∧ E < e
            · obtain ⟨d3a, d3b⟩ := d3
              have HQ1 : Hid (Q w0 b o n (rot f s m E)) := by rw [rot_none f s m E (by omega) c2 c3]; exact HQ0
              have HG1 := HG0
              have hsy := HI.out w0 _ a s mid (by omega) (by omega) (by omega) (by omega) (HC.out.first ordE HS1.out HS2.out).1 (HC.out.first ordE HS1.out HS2.out).2.1 HQ1.out
              go_wp2_with fail
              refine hsy.mono ?_
              rintro ex w2 ⟨rfl, g1, hq2, hd2, hg2⟩
              have HQ2 := Lib.hid hq2
              have HD2 := Lib.hid hd2
              have HG2 := Lib.hid (grow_trans HG1.out hg2)
              clear hsy hq2 hd2 hg2
              have hsy := HI.out w2 _ mid E e (by omega) (by omega) (by omega) (by omega) (HC.out.k2 ordE HS1.out HS2.out c6 HD2.out).1 (HC.out.k2 ordE HS1.out HS2.out c6 HD2.out).2 HQ2.out
              go_wp2_with fail
              refine hsy.mono ?_
              rintro ex w3 ⟨rfl, g2, hq3, hd3, hg3⟩
              have HQ3 := Lib.hid hq3
              have HD3 := Lib.hid hd3
              have HG3 := Lib.hid (grow_trans HG2.out hg3)
              clear hsy hq3 hd3 hg3
              go_wp2_with fail
              go_end0
              exact ⟨rfl, _, HQ3.out, HC.out.fin ordE HS1.out HS2.out (by omega) (by omega) c5 c6 HD2.out HD3.out, HG3.out⟩
            · by_cases d3a : mid < E
              · have d3b : ¬ (E < e) := fun hh => d3 ⟨d3a, hh⟩
                have HQ1 : Hid (Q w0 b o n (rot f s m E)) := by rw [rot_none f s m E (by omega) c2 c3]; exact HQ0
                have HG1 := HG0
                have hsy := HI.out w0 _ a s mid (by omega) (by omega) (by omega) (by omega) (HC.out.first ordE HS1.out HS2.out).1 (HC.out.first ordE HS1.out HS2.out).2.1 HQ1.out
                go_wp2_with fail
                refine hsy.mono ?_
                rintro ex w2 ⟨rfl, g1, hq2, hd2, hg2⟩
                have HQ2 := Lib.hid hq2
                have HD2 := Lib.hid hd2
                have HG2 := Lib.hid (grow_trans HG1.out hg2)
                clear hsy hq2 hd2 hg2
                have HQ3 := HQ2
                have HD3 := Lib.hid (HC.out.k3 ordE HS1.out HS2.out c6 HD2.out d3)
                have HG3 := HG2
                go_wp2_with fail
                go_end0
                exact ⟨rfl, _, HQ3.out, HC.out.fin ordE HS1.out HS2.out (by omega) (by omega) c5 c6 HD2.out HD3.out, HG3.out⟩
              · skip
                have HQ1 : Hid (Q w0 b o n (rot f s m E)) := by rw [rot_none f s m E (by omega) c2 c3]; exact HQ0
                have HG1 := HG0
                have hsy := HI.out w0 _ a s mid (by omega) (by omega) (by omega) (by omega) (HC.out.first ordE HS1.out HS2.out).1 (HC.out.first ordE HS1.out HS2.out).2.1 HQ1.out
                go_wp2_with fail
                refine hsy.mono ?_
                rintro ex w2 ⟨rfl, g1, hq2, hd2, hg2⟩
                have HQ2 := Lib.hid hq2
                have HD2 := Lib.hid hd2
                have HG2 := Lib.hid (grow_trans HG1.out hg2)
                clear hsy hq2 hd2 hg2
                have HQ3 := HQ2
                have HD3 := Lib.hid (HC.out.k3 ordE HS1.out HS2.out c6 HD2.out d3)
                have HG3 := HG2
                go_wp2_with fail
                go_end0
                exact ⟨rfl, _, HQ3.out, HC.out.fin ordE HS1.out HS2.out (by omega) (by omega) c5 c6 HD2.out HD3.out, HG3.out⟩
          · by_cases d2a : a < s
            · have d2b : ¬ (s < mid) := fun hh => d2 ⟨d2a, hh⟩
              by_cases d3 : mid < E ∧ E < e
              · obtain ⟨d3a, d3b⟩ := d3
                have HQ1 : Hid (Q w0 b o n (rot f s m E)) := by rw [rot_none f s m E (by omega) c2 c3]; exact HQ0
                have HG1 := HG0
                have HQ2 := HQ1
                have HD2 := Lib.hid (HC.out.k1 ordE HS1.out HS2.out c5 d2)
                have HG2 := HG1
                have hsy := HI.out w0 _ mid E e (by omega) (by omega) (by omega) (by omega) (HC.out.k2 ordE HS1.out HS2.out c6 HD2.out).1 (HC.out.k2 ordE HS1.out HS2.out c6 HD2.out).2 HQ2.out
                go_wp2_with fail
                refine hsy.mono ?_
                rintro ex w3 ⟨rfl, g2, hq3, hd3, hg3⟩
                have HQ3 := Lib.hid hq3
                have HD3 := Lib.hid hd3
                have HG3 := Lib.hid (grow_trans HG2.out hg3)
                clear hsy hq3 hd3 hg3
                go_wp2_with fail
                go_end0
                exact ⟨rfl, _, HQ3.out, HC.out.fin ordE HS1.out HS2.out (by omega) (by omega) c5 c6 HD2.out HD3.out, HG3.out⟩
              · by_cases d3a : mid < E
                · have d3b : ¬ (E < e) := fun hh => d3 ⟨d3a, hh⟩
                  have HQ1 : Hid (Q w0 b o n (rot f s m E)) := by rw [rot_none f s m E (by omega) c2 c3]; exact HQ0
                  have HG1 := HG0
                  have HQ2 := HQ1
                  have HD2 := Lib.hid (HC.out.k1 ordE HS1.out HS2.out c5 d2)
                  have HG2 := HG1
                  have HQ3 := HQ2
                  have HD3 := Lib.hid (HC.out.k3 ordE HS1.out HS2.out c6 HD2.out d3)
                  have HG3 := HG2
                  go_wp2_with fail
                  go_end0
                  exact ⟨rfl, _, HQ3.out, HC.out.fin ordE HS1.out HS2.out (by omega) (by omega) c5 c6 HD2.out HD3.out, HG3.out⟩
                · skip
                  have HQ1 : Hid (Q w0 b o n (rot f s m E)) := by rw [rot_none f s m E (by omega) c2 c3]; exact HQ0
                  have HG1 := HG0
                  have HQ2 := HQ1
                  have HD2 := Lib.hid (HC.out.k1 ordE HS1.out HS2.out c5 d2)
                  have HG2 := HG1
                  have HQ3 := HQ2
                  have HD3 := Lib.hid (HC.out.k3 ordE HS1.out HS2.out c6 HD2.out d3)
                  have HG3 := HG2
                  go_wp2_with fail
                  go_end0
                  exact ⟨rfl, _, HQ3.out, HC.out.fin ordE HS1.out HS2.out (by omega) (by omega) c5 c6 HD2.out HD3.out, HG3.out⟩
            · skip
              by_cases d3 : mid < E ∧ E < e
              · obtain ⟨d3a, d3b⟩ := d3
                have HQ1 : Hid (Q w0 b o n (rot f s m E)) := by rw [rot_none f s m E (by omega) c2 c3]; exact HQ0
                have HG1 := HG0
                have HQ2 := HQ1
                have HD2 := Lib.hid (HC.out.k1 ordE HS1.out HS2.out c5 d2)
                have HG2 := HG1
                have hsy := HI.out w0 _ mid E e (by omega) (by omega) (by omega) (by omega) (HC.out.k2 ordE HS1.out HS2.out c6 HD2.out).1 (HC.out.k2 ordE HS1.out HS2.out c6 HD2.out).2 HQ2.out
                go_wp2_with fail
                refine hsy.mono ?_
                rintro ex w3 ⟨rfl, g2, hq3, hd3, hg3⟩
                have HQ3 := Lib.hid hq3
                have HD3 := Lib.hid hd3
                have HG3 := Lib.hid (grow_trans HG2.out hg3)
                clear hsy hq3 hd3 hg3
                go_wp2_with fail
                go_end0
                exact ⟨rfl, _, HQ3.out, HC.out.fin ordE HS1.out HS2.out (by omega) (by omega) c5 c6 HD2.out HD3.out, HG3.out⟩
              · by_cases d3a : mid < E
                · have d3b : ¬ (E < e) := fun hh => d3 ⟨d3a, hh⟩
                  have HQ1 : Hid (Q w0 b o n (rot f s m E)) := by rw [rot_none f s m E (by omega) c2 c3]; exact HQ0
                  have HG1 := HG0
                  have HQ2 := HQ1
                  have HD2 := Lib.hid (HC.out.k1 ordE HS1.out HS2.out c5 d2)
                  have HG2 := HG1
                  have HQ3 := HQ2
                  have HD3 := Lib.hid (HC.out.k3 ordE HS1.out HS2.out c6 HD2.out d3)
                  have HG3 := HG2
                  go_wp2_with fail
                  go_end0
                  exact ⟨rfl, _, HQ3.out, HC.out.fin ordE HS1.out HS2.out (by omega) (by omega) c5 c6 HD2.out HD3.out, HG3.out⟩
                · skip
                  have HQ1 : Hid (Q w0 b o n (rot f s m E)) := by rw [rot_none f s m E (by omega) c2 c3]; exact HQ0
                  have HG1 := HG0
                  have HQ2 := HQ1
                  have HD2 := Lib.hid (HC.out.k1 ordE HS1.out HS2.out c5 d2)
                  have HG2 := HG1
                  have HQ3 := HQ2
                  have HD3 := Lib.hid (HC.out.k3 ordE HS1.out HS2.out c6 HD2.out d3)
                  have HG3 := HG2
                  go_wp2_with fail
                  go_end0
                  exact ⟨rfl, _, HQ3.out, HC.out.fin ordE HS1.out HS2.out (by omega) (by omega) c5 c6 HD2.out HD3.out, HG3.out⟩
        · skip
          by_cases d2 : a < s ∧ s < mid
          · obtain ⟨d2a, d2b⟩ := d2
            by_cases d3 : mid < E ∧ E < e
            · obtain ⟨d3a, d3b⟩ := d3
              have HQ1 : Hid (Q w0 b o n (rot f s m E)) := by rw [rot_none f s m E (by omega) c2 c3]; exact HQ0
              have HG1 := HG0
              have hsy := HI.out w0 _ a s mid (by omega) (by omega) (by omega) (by omega) (HC.out.first ordE HS1.out HS2.out).1 (HC.out.first ordE HS1.out HS2.out).2.1 HQ1.out
              go_wp2_with fail
              refine hsy.mono ?_
              rintro ex w2 ⟨rfl, g1, hq2, hd2, hg2⟩
              have HQ2 := Lib.hid hq2
              have HD2 := Lib.hid hd2
              have HG2 := Lib.hid (grow_trans HG1.out hg2)
              clear hsy hq2 hd2 hg2
              have hsy := HI.out w2 _ mid E e (by omega) (by omega) (by omega) (by omega) (HC.out.k2 ordE HS1.out HS2.out c6 HD2.out).1 (HC.out.k2 ordE HS1.out HS2.out c6 HD2.out).2 HQ2.out
              go_wp2_with fail
              refine hsy.mono ?_
              rintro ex w3 ⟨rfl, g2, hq3, hd3, hg3⟩
              have HQ3 := Lib.hid hq3
              have HD3 := Lib.hid hd3
              have HG3 := Lib.hid (grow_trans HG2.out hg3)
              clear hsy hq3 hd3 hg3
              go_wp2_with fail
              go_end0
              exact ⟨rfl, _, HQ3.out, HC.out.fin ordE HS1.out HS2.out (by omega) (by omega) c5 c6 HD2.out HD3.out, HG3.out⟩
            · by_cases d3a : mid < E
              · have d3b : ¬ (E < e) := fun hh => d3 ⟨d3a, hh⟩
                have HQ1 : Hid (Q w0 b o n (rot f s m E)) := by rw [rot_none f s m E (by omega) c2 c3]; exact HQ0
                have HG1 := HG0
                have hsy := HI.out w0 _ a s mid (by omega) (by omega) (by omega) (by omega) (HC.out.first ordE HS1.out HS2.out).1 (HC.out.first ordE HS1.out HS2.out).2.1 HQ1.out
                go_wp2_with fail
                refine hsy.mono ?_
                rintro ex w2 ⟨rfl, g1, hq2, hd2, hg2⟩
                have HQ2 := Lib.hid hq2
                have HD2 := Lib.hid hd2
                have HG2 := Lib.hid (grow_trans HG1.out hg2)
                clear hsy hq2 hd2 hg2
                have HQ3 := HQ2
                have HD3 := Lib.hid (HC.out.k3 ordE HS1.out HS2.out c6 HD2.out d3)
                have HG3 := HG2
                go_wp2_with fail
                go_end0
                exact ⟨rfl, _, HQ3.out, HC.out.fin ordE HS1.out HS2.out (by omega) (by omega) c5 c6 HD2.out HD3.out, HG3.out⟩
              · skip
                have HQ1 : Hid (Q w0 b o n (rot f s m E)) := by rw [rot_none f s m E (by omega) c2 c3]; exact HQ0
                have HG1 := HG0
                have hsy := HI.out w0 _ a s mid (by omega) (by omega) (by omega) (by omega) (HC.out.first ordE HS1.out HS2.out).1 (HC.out.first ordE HS1.out HS2.out).2.1 HQ1.out
                go_wp2_with fail
                refine hsy.mono ?_
                rintro ex w2 ⟨rfl, g1, hq2, hd2, hg2⟩
                have HQ2 := Lib.hid hq2
                have HD2 := Lib.hid hd2
                have HG2 := Lib.hid (grow_trans HG1.out hg2)
                clear hsy hq2 hd2 hg2
                have HQ3 := HQ2
                have HD3 := Lib.hid (HC.out.k3 ordE HS1.out HS2.out c6 HD2.out d3)
                have HG3 := HG2
                go_wp2_with fail
                go_end0
                exact ⟨rfl, _, HQ3.out, HC.out.fin ordE HS1.out HS2.out (by omega) (by omega) c5 c6 HD2.out HD3.out, HG3.out⟩
          · by_cases d2a : a < s
            · have d2b : ¬ (s < mid) := fun hh => d2 ⟨d2a, hh⟩
              by_cases d3 : mid < E ∧ E < e
              · obtain ⟨d3a, d3b⟩ := d3
                have HQ1 : Hid (Q w0 b o n (rot f s m E)) := by rw [rot_none f s m E (by omega) c2 c3]; exact HQ0
                have HG1 := HG0
                have HQ2 := HQ1
                have HD2 := Lib.hid (HC.out.k1 ordE HS1.out HS2.out c5 d2)
                have HG2 := HG1
                have hsy := HI.out w0 _ mid E e (by omega) (by omega) (by omega) (by omega) (HC.out.k2 ordE HS1.out HS2.out c6 HD2.out).1 (HC.out.k2 ordE HS1.out HS2.out c6 HD2.out).2 HQ2.out
                go_wp2_with fail
                refine hsy.mono ?_
                rintro ex w3 ⟨rfl, g2, hq3, hd3, hg3⟩
                have HQ3 := Lib.hid hq3
                have HD3 := Lib.hid hd3
                have HG3 := Lib.hid (grow_trans HG2.out hg3)
                clear hsy hq3 hd3 hg3
                go_wp2_with fail
                go_end0
                exact ⟨rfl, _, HQ3.out, HC.out.fin ordE HS1.out HS2.out (by omega) (by omega) c5 c6 HD2.out HD3.out, HG3.out⟩
              · by_cases d3a : mid < E
                · have d3b : ¬ (E < e) := fun hh => d3 ⟨d3a, hh⟩
                  have HQ1 : Hid (Q w0 b o n (rot f s m E)) := by rw [rot_none f s m E (by omega) c2 c3]; exact HQ0
                  have HG1 := HG0
                  have HQ2 := HQ1
                  have HD2 := Lib.hid (HC.out.k1 ordE HS1.out HS2.out c5 d2)
                  have HG2 := HG1
                  have HQ3 := HQ2
                  have HD3 := Lib.hid (HC.out.k3 ordE HS1.out HS2.out c6 HD2.out d3)
                  have HG3 := HG2
                  go_wp2_with fail
                  go_end0
                  exact ⟨rfl, _, HQ3.out, HC.out.fin ordE HS1.out HS2.out (by omega) (by omega) c5 c6 HD2.out HD3.out, HG3.out⟩
                · skip
                  have HQ1 : Hid (Q w0 b o n (rot f s m E)) := by rw [rot_none f s m E (by omega) c2 c3]; exact HQ0
                  have HG1 := HG0
                  have HQ2 := HQ1
                  have HD2 := Lib.hid (HC.out.k1 ordE HS1.out HS2.out c5 d2)
                  have HG2 := HG1
                  have HQ3 := HQ2
                  have HD3 := Lib.hid (HC.out.k3 ordE HS1.out HS2.out c6 HD2.out d3)
                  have HG3 := HG2
                  go_wp2_with fail
                  go_end0
                  exact ⟨rfl, _, HQ3.out, HC.out.fin ordE HS1.out HS2.out (by omega) (by omega) c5 c6 HD2.out HD3.out, HG3.out⟩
            · skip
              by_cases d3 : mid < E ∧ E < e
              · obtain ⟨d3a, d3b⟩ := d3
                have HQ1 : Hid (Q w0 b o n (rot f s m E)) := by rw [rot_none f s m E (by omega) c2 c3]; exact HQ0
                have HG1 := HG0
                have HQ2 := HQ1
                have HD2 := Lib.hid (HC.out.k1 ordE HS1.out HS2.out c5 d2)
                have HG2 := HG1
                have hsy := HI.out w0 _ mid E e (by omega) (by omega) (by omega) (by omega) (HC.out.k2 ordE HS1.out HS2.out c6 HD2.out).1 (HC.out.k2 ordE HS1.out HS2.out c6 HD2.out).2 HQ2.out
                go_wp2_with fail
                refine hsy.mono ?_
                rintro ex w3 ⟨rfl, g2, hq3, hd3, hg3⟩
                have HQ3 := Lib.hid hq3
                have HD3 := Lib.hid hd3
                have HG3 := Lib.hid (grow_trans HG2.out hg3)
                clear hsy hq3 hd3 hg3
                go_wp2_with fail
                go_end0
                exact ⟨rfl, _, HQ3.out, HC.out.fin ordE HS1.out HS2.out (by omega) (by omega) c5 c6 HD2.out HD3.out, HG3.out⟩
              · by_cases d3a : mid < E
                · have d3b : ¬ (E < e) := fun hh => d3 ⟨d3a, hh⟩
                  have HQ1 : Hid (Q w0 b o n (rot f s m E)) := by rw [rot_none f s m E (by omega) c2 c3]; exact HQ0
                  have HG1 := HG0
                  have HQ2 := HQ1
                  have HD2 := Lib.hid (HC.out.k1 ordE HS1.out HS2.out c5 d2)
                  have HG2 := HG1
                  have HQ3 := HQ2
                  have HD3 := Lib.hid (HC.out.k3 ordE HS1.out HS2.out c6 HD2.out d3)
                  have HG3 := HG2
                  go_wp2_with fail
                  go_end0
                  exact ⟨rfl, _, HQ3.out, HC.out.fin ordE HS1.out HS2.out (by omega) (by omega) c5 c6 HD2.out HD3.out, HG3.out⟩
                · skip
                  have HQ1 : Hid (Q w0 b o n (rot f s m E)) := by rw [rot_none f s m E (by omega) c2 c3]; exact HQ0
                  have HG1 := HG0
                  have HQ2 := HQ1
                  have HD2 := Lib.hid (HC.out.k1 ordE HS1.out HS2.out c5 d2)
                  have HG2 := HG1
                  have HQ3 := HQ2
                  have HD3 := Lib.hid (HC.out.k3 ordE HS1.out HS2.out c6 HD2.out d3)
                  have HG3 := HG2
                  go_wp2_with fail
                  go_end0
                  exact ⟨rfl, _, HQ3.out, HC.out.fin ordE HS1.out HS2.out (by omega) (by omega) c5 c6 HD2.out HD3.out, HG3.out⟩

end Go.Proofs.Ytboiigeomgdkjaa
