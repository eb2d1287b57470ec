/-
  The contracts of quoted.isSpaceByte and quoted.Split. For every text of at most 2147483647 bytes.
-/
import Derived.Test.YtlkfokfnffhfmaaProg
import Derived.Test.YtlkfokfnffhfmaaSplitPlain
import Derived.Test.YtlkfokfnffhfmaaRow
import Derived.Lib.Hide
import Derived.Handy
import Derived.WalkSpells
import Derived.Deep.LoopGhost
namespace Go.Proofs.Ytlkfokfnffhfmaa
open Go.RowKit Go.PlainAid

theorem isSpace_any (c : Int) (w : World) : Calls Try.prog 49 #[.int .u8 c] w fun e w' => e = .returned (.bool (spI c)) ∧ w = w' := by
  by_cases h1 : (c == 32) = true
  · have e : spI c = true := by simp [spI, h1]
    rw [e]; clear e
    go_enter Try.func49, Try.ntmps49
    go_wp2
    go_ret
    exact ⟨rfl, rfl⟩
  by_cases h2 : (c == 9) = true
  · have h1 : (c == 32) = false := by simpa using h1
    have e : spI c = true := by simp [spI, h2]
    rw [e]; clear e
    go_enter Try.func49, Try.ntmps49
    go_wp2
    go_ret
    exact ⟨rfl, rfl⟩
  by_cases h3 : (c == 10) = true
  · have h1 : (c == 32) = false := by simpa using h1
    have h2 : (c == 9) = false := by simpa using h2
    have e : spI c = true := by simp [spI, h3]
    rw [e]; clear e
    go_enter Try.func49, Try.ntmps49
    go_wp2
    go_ret
    exact ⟨rfl, rfl⟩
  have h1 : (c == 32) = false := by simpa using h1
  have h2 : (c == 9) = false := by simpa using h2
  have h3 : (c == 10) = false := by simpa using h3
  have e : spI c = (c == 13) := by simp [spI, h1, h2, h3]
  rw [e]; clear e
  go_enter Try.func49, Try.ntmps49
  go_wp2
  go_ret
  exact ⟨rfl, rfl⟩
theorem isSpace_yes (c : Int) (w : World) (h : spI c = true) : Calls Try.prog 49 #[.int .u8 c] w fun e w' => e = .returned (.bool true) ∧ w = w' := by have := isSpace_any c w; rw [h] at this; exact this
theorem isSpace_no (c : Int) (w : World) (h : spI c = false) : Calls Try.prog 49 #[.int .u8 c] w fun e w' => e = .returned (.bool false) ∧ w = w' := by have := isSpace_any c w; rw [h] at this; exact this

theorem infoStr : (Try.prog.info? 9).map (fun i => (i.zero, i.size, i.bytes)) = some (some (.string ByteArray.empty), 1, 16) := by kernel_rfl

/-- what quoted.Split leaves -/
def SplitPost (s : ByteArray) (w : World) (e : Ending) (w' : World) : Prop :=
  Below w.heap.size w w' ∧ match splitL (L s) with
    | none => ∃ T p, e = .returned (.tuple #[.slice none 0 0, .iface T p])
    | some fs => ∃ v, e = .returned (.tuple #[v, .nilIface]) ∧ Row w' w.heap.size 1 v fs.length (fs.map S)

theorem row_push {w : World} {B : Nat} {v : Value} {acc : List Bs} {x : ByteArray} (h : Row w B 1 v (acc.length + 1) (acc.map S ++ [.string x])) : Row w B 1 v (acc ++ [L x]).length ((acc ++ [L x]).map S) := by
  rw [List.length_append, List.map_append, List.map_cons, List.map_nil, ← S_L]; exact h
theorem errNew_any (s : ByteArray) (w : World) : Calls Try.prog 50 #[.string s] w fun e w' => e = .returned (.iface 115 (.pointer (some ⟨w.heap.size, 0, none⟩))) ∧ w.alloc (.cells #[.string s] 117) = w' := by
  go_enter Try.func50, Try.ntmps50
  go_wp2
  go_ret
  exact ⟨rfl, rfl⟩
/-- the relation of the outer loop -/
def SplitRel (s : ByteArray) (w : World) (sv fv : Value) (wr : World) : Prop :=
  ∃ (t : ByteArray) (acc : List Bs), sv = .string t ∧ t.size + acc.length ≤ s.size ∧ Rest (L s) acc (L t) ∧ Row wr w.heap.size 1 fv acc.length (acc.map S) ∧ Below w.heap.size w wr

set_option maxRecDepth 100000 in
set_option maxHeartbeats 1000000 in
theorem split_any (s : ByteArray) (w : World) (hs : s.size ≤ 2147483647) :
    Calls Try.prog 51 #[.string s] w (SplitPost s w) := by
  obtain ⟨i0, hi, hz0, hz1, hz2⟩ := info_parts infoStr
  go_enter Try.func51, Try.ntmps51
  go_wp2
  go_loopw [0, 4] (SplitRel s w) (fun sv _ _ => strLen sv)
  case atStart => exact ⟨s, [], rfl, by simp, Rest.start _, Row.nil _ _ _, Below.refl _ _⟩
  case round =>
    obtain ⟨t, acc, rfl, hsz, hR, hrow, hbel⟩ := hrel
    obtain ⟨wo, rfl⟩ : ∃ wo : World, wo = wr := ⟨_, rfl⟩
    have HR := Lib.hid hR
    have HW := Lib.hid hrow
    clear hR hrow
    by_cases h0 : 0 < t.size
    · go_wp2
      go_loop [0] (fun sv => ∃ t' : ByteArray, sv = .string t' ∧ t'.size ≤ t.size ∧ Hid (splitL (L t') = splitL (L t))) (fun sv => strLen sv)
      case atStart => exact ⟨t, rfl, Nat.le_refl _, rfl⟩
      case round =>
        obtain ⟨t', rfl, hle, HE⟩ := hrel
        have hb := get_bt t'
        by_cases h0' : 0 < t'.size
        · by_cases hsp : spI (bt t' 0) = true
          · have hsp' := hsp
            go_wp2_with (go_at_call 49; refine (isSpace_yes _ _ (by assumption)).mono ?_; rintro e w' ⟨rfl, rfl⟩)
            go_round
            case rel => exact ⟨_, rfl, by simp; omega, by show _ = _; rw [step_skip t' h0' hsp', HE.out]⟩
            case measure => simp [strLen]; omega
          · have hsp' : spI (bt t' 0) = false := by simpa using hsp
            clear hsp
            by_cases hq : qI (bt t' 0) = true
            · have hqq : (bt t' 0 == 34) = true ∨ ((bt t' 0 == 34) = false ∧ (bt t' 0 == 39) = true) := by
                unfold qI at hq; cases h34 : (bt t' 0 == 34) <;> simp_all
              have HQ := Lib.hid hq
              clear hq
              rcases hqq with h34 | ⟨h34, h39⟩
              all_goals
                go_wp2_with (go_at_call 49; refine (isSpace_no _ _ (by assumption)).mono ?_; rintro e w' ⟨rfl, rfl⟩)
                have hus : (t'.extract 1 t'.size).size = t'.size - 1 := by simp
                have hsk := step_quote t' h0' HQ.out
                have hsm := step_missing t' h0' HQ.out
                have HSK := Lib.hid hsk
                have HSM := Lib.hid hsm
                clear hsk hsm
                generalize hu : t'.extract 1 t'.size = u at *
                generalize hc : bt t' 0 = c at *
                clear hu hc
                have HUS := Lib.hid hus
                clear hus
                have hub : u.size ≤ 2147483647 := by have := HUS.out; omega
                have hb2 := get_bt u
                go_loop [6] (fun iv => ∃ k : Nat, iv = .int .i64 k ∧ k ≤ u.size ∧ Hid (∀ j, j < k → bt u j ≠ c)) (fun iv => u.size - (intOf iv).toNat)
                case atStart => exact ⟨0, rfl, Nat.zero_le _, fun j hj => absurd hj (by omega)⟩
                case round =>
                  obtain ⟨k, rfl, hk, HA⟩ := hrel
                  by_cases hlt : k < u.size
                  · by_cases hne : (bt u k != c) = true
                    · go_wp2
                      go_round
                      case rel => exact ⟨k + 1, by go_num, by omega, fun j hj => (by
                        rcases Nat.lt_succ_iff_lt_or_eq.1 hj with h | h
                        · exact HA.out j h
                        · subst h; simpa using hne)⟩
                      case measure => simp [intOf]; omega
                    · have hne' : (bt u k != c) = false := by simpa using hne
                      have hek : bt u k = c := by simpa using hne'
                      have HS := Lib.hid (HSK.out k hlt HA.out hek)
                      clear hne hek
                      have hge : ¬ (u.size ≤ k) := by omega
                      have m1 : acc.length + 1 ≤ maxLen := by unfold maxLen; omega
                      have m2 : (acc.length + 1) * 16 ≤ 140737488355328 := by omega
                      go_wp2_with (at_builtin; refine wpList_append_one wo rfl (.tmp 54) (.tmp 58) 45 rfl w.heap.size 9 i0 (.string ByteArray.empty) 16 Try.underlying45 hi hz0 hz1 hz2 rfl _ _ _ HW.out rfl (.string (u.extract 0 k)) rfl rfl m1 m2 hbel.size hbel ?_; intro v1 w1 hrow1 hbel1 hg1 hbk1; have HW1 := Lib.hid hrow1; clear hrow1 hg1 hbk1)
                      go_roundw
                      case rel =>
                        refine ⟨_, acc ++ [L (u.extract 0 k)], rfl, ?_, (HR.out.same HE.out).push HS.out, row_push HW1.out, hbel1⟩
                        simp; have := HUS.out; omega
                      case measure => simp [strLen]; have := HUS.out; omega
                  · obtain rfl : k = u.size := by omega
                    have HS := Lib.hid ((HR.out.same HE.out).miss (HSM.out HA.out))
                    go_wp2_with (go_at_call 50; refine (errNew_any _ _).mono ?_; rintro e w' ⟨rfl, rfl⟩)
                    go_ret2
                    unfold SplitPost
                    rw [HS.out]
                    exact ⟨hbel.alloc hbel.size _, _, _, rfl⟩
            · have hq' : qI (bt t' 0) = false := by simpa using hq
              have h34 : (bt t' 0 == 34) = false := by unfold qI at hq'; simp at hq'; simp [hq'.1]
              have h39 : (bt t' 0 == 39) = false := by unfold qI at hq'; simp at hq'; simp [hq'.2]
              have HB := Lib.hid (step_bare t' h0' hsp' hq')
              clear hq hq'
              have htb : t'.size ≤ 2147483647 := by omega
              have hz' : ((t'.size : Int) == 0) = false := beq_eq_false_iff_ne.2 (by omega)
              go_wp2_with (go_at_call 49; refine (isSpace_no _ _ (by assumption)).mono ?_; rintro e w' ⟨rfl, rfl⟩)
              have HSP := Lib.hid hsp'
              go_loop [7] (fun iv => ∃ k : Nat, iv = .int .i64 k ∧ k ≤ t'.size ∧ Hid (∀ j, j < k → spI (bt t' j) = false)) (fun iv => t'.size - (intOf iv).toNat)
              case atStart => exact ⟨0, rfl, Nat.zero_le _, fun j hj => absurd hj (by omega)⟩
              case round =>
                obtain ⟨k, rfl, hk, HA⟩ := hrel
                by_cases hgo : k < t'.size ∧ spI (bt t' k) = false
                · obtain ⟨hlt, hne⟩ := hgo
                  go_wp2_with (go_at_call 49; refine (isSpace_no _ _ (by assumption)).mono ?_; rintro e w' ⟨rfl, rfl⟩)
                  go_round
                  case rel =>
                    have HA' : Hid (∀ j, j < k + 1 → spI (bt t' j) = false) := fun j hj => (by
                      rcases Nat.lt_succ_iff_lt_or_eq.1 hj with h | h
                      · exact HA.out j h
                      · subst h; exact hne)
                    exact ⟨k + 1, by go_num, by omega, HA'⟩
                  case measure => simp [intOf]; omega
                · have hstop : k = t'.size ∨ spI (bt t' k) = true := by
                    by_cases hlt : k < t'.size
                    · right; by_cases h : spI (bt t' k) = true
                      · exact h
                      · exact absurd ⟨hlt, by simpa using h⟩ hgo
                    · left; omega
                  have HS := Lib.hid (HB.out k hk HA.out hstop)
                  have hk0 : 0 < k := by
                    rcases Nat.eq_zero_or_pos k with rfl | h
                    · exfalso
                      rcases hstop with h | h
                      · omega
                      · rw [HSP.out] at h; cases h
                    · exact h
                  clear hgo
                  have m1 : acc.length + 1 ≤ maxLen := by unfold maxLen; omega
                  have m2 : (acc.length + 1) * 16 ≤ 140737488355328 := by omega
                  have hcs : (k < t'.size ∧ spI (bt t' k) = true) ∨ t'.size ≤ k := by
                    rcases hstop with h | h
                    · right; omega
                    · by_cases hlt : k < t'.size
                      · exact .inl ⟨hlt, h⟩
                      · right; omega
                  clear hstop
                  rcases hcs with ⟨hlt, hsy⟩ | hge
                  all_goals
                    go_wp2_with (first | (go_at_call 49; refine (isSpace_yes _ _ (by assumption)).mono ?_; rintro e w' ⟨rfl, rfl⟩) | (at_builtin; refine wpList_append_one wo rfl (.tmp 77) (.tmp 81) 45 rfl w.heap.size 9 i0 (.string ByteArray.empty) 16 Try.underlying45 hi hz0 hz1 hz2 rfl _ _ _ HW.out rfl (.string (t'.extract 0 k)) rfl rfl m1 m2 hbel.size hbel ?_; intro v1 w1 hrow1 hbel1 hg1 hbk1; have HW1 := Lib.hid hrow1; clear hrow1 hg1 hbk1))
                    go_roundw
                    case rel =>
                      refine ⟨_, acc ++ [L (t'.extract 0 k)], rfl, ?_, (HR.out.same HE.out).push HS.out, row_push HW1.out, hbel1⟩
                      simp; omega
                    case measure => simp [strLen]; omega
        · obtain rfl : t' = ByteArray.empty := by apply ByteArray.ext; exact Array.eq_empty_of_size_eq_zero (by show t'.size = 0; omega)
          have HS := Lib.hid ((HR.out.same HE.out).done splitL_nil)
          go_wp2
          go_ret2
          unfold SplitPost
          rw [HS.out]
          exact ⟨hbel, _, rfl, HW.out⟩
    · have HS := Lib.hid (HR.out.done (by rw [L_nil t (by omega)]; exact splitL_nil))
      go_wp2
      go_ret2
      unfold SplitPost
      rw [HS.out]
      exact ⟨hbel, _, rfl, HW.out⟩
end Go.Proofs.Ytlkfokfnffhfmaa
