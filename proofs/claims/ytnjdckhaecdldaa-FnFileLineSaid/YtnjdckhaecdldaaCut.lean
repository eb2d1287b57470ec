/-
  The contract of bisect.CutMarker. For every line of at most 4294967296 bytes.
-/
import Derived.Test.YtnjdckhaecdldaaProg
import Derived.Test.YtnjdckhaecdldaaBytes
import Derived.Test.YtnjdckhaecdldaaRow
import Derived.Lib.Hide
import Derived.Handy
import Derived.WalkSpells
import Derived.Deep.QuietTactic
import Derived.BigQuiet
import Derived.Deep.CutRange
import Derived.Deep.DeepCutAuto
namespace Go.Proofs.Ytnjdckhaecdldaa
open Go.RowKit Go.PlainAid

def P14 : ByteArray := ⟨#[91, 98, 105, 115, 101, 99, 116, 45, 109, 97, 116, 99, 104, 32]⟩
/-- the beginning of a marker at a place -/
def Pfx (t : ByteArray) (q : Nat) : Prop := t.extract q (q + 14) = P14
def FirstPfx (t : ByteArray) (p : Nat) : Prop := p + 14 < t.size ∧ Pfx t p ∧ ∀ q, q < p → ¬ Pfx t q
def FirstBr (t : ByteArray) (p j : Nat) : Prop := p + 14 ≤ j ∧ j < t.size ∧ bt t j = 93 ∧ ∀ i, p + 14 ≤ i → i < j → bt t i ≠ 93
def HexForm (d : ByteArray) : Prop := 3 ≤ d.size ∧ d.extract 0 2 = ⟨#[48, 120]⟩
def hexStep (v c : Int) : Int :=
  if 48 ≤ c ∧ c ≤ 57 then bits .or .u64 (IntKind.u64.wrap (v * 16)) (c - 48)
  else if 97 ≤ c ∧ c ≤ 102 then bits .or .u64 (IntKind.u64.wrap (v * 16)) (c - 97 + 10)
  else if 65 ≤ c ∧ c ≤ 70 then bits .or .u64 (IntKind.u64.wrap (v * 16)) (c - 65 + 10)
  else IntKind.u64.wrap (v * 16)
def hexFold (d : ByteArray) : Nat → Int
  | 0 => 0
  | k + 1 => hexStep (hexFold d k) (bt d (2 + k))
def binStep (v c : Int) : Int := bits .or .u64 (IntKind.u64.wrap (v * 2)) (c - 48)
def binFold (d : ByteArray) : Nat → Int
  | 0 => 0
  | k + 1 => binStep (binFold d k) (bt d k)
def cutS (t : ByteArray) (p j : Nat) : ByteArray :=
  if 0 < p ∧ bt t (p - 1) = 32 then t.extract 0 (p - 1) ++ t.extract j t.size
  else if j < t.size ∧ bt t j = 32 then t.extract 0 p ++ t.extract (j + 1) t.size
  else t.extract 0 p ++ t.extract j t.size
def cutNo (t : ByteArray) : Ending := .returned (.tuple #[.string t, .int .u64 0, .bool false])
def cutYes (s : ByteArray) (v : Int) : Ending := .returned (.tuple #[.string s, .int .u64 v, .bool true])
/-- what CutMarker tells -/
inductive Cut (t : ByteArray) : Ending → Prop
  | none (h : ∀ q, q + 14 < t.size → ¬ Pfx t q) : Cut t (cutNo t)
  | open_ (p : Nat) (h : FirstPfx t p) (hj : ∀ j, p + 14 ≤ j → j < t.size → bt t j ≠ 93) : Cut t (cutNo t)
  | long (p j : Nat) (h : FirstPfx t p) (hj : FirstBr t p j) (hx : HexForm (t.extract (p + 14) j)) (hl : 18 < (t.extract (p + 14) j).size) : Cut t (cutNo t)
  | hex (p j : Nat) (h : FirstPfx t p) (hj : FirstBr t p j) (hx : HexForm (t.extract (p + 14) j)) (hl : (t.extract (p + 14) j).size ≤ 18) : Cut t (cutYes (cutS t p (j + 1)) (hexFold (t.extract (p + 14) j) ((t.extract (p + 14) j).size - 2)))
  | size (p j : Nat) (h : FirstPfx t p) (hj : FirstBr t p j) (hx : ¬ HexForm (t.extract (p + 14) j)) (hl : (t.extract (p + 14) j).size = 0 ∨ 64 < (t.extract (p + 14) j).size) : Cut t (cutNo t)
  | bad (p j k : Nat) (h : FirstPfx t p) (hj : FirstBr t p j) (hx : ¬ HexForm (t.extract (p + 14) j)) (hk : k < (t.extract (p + 14) j).size) (hb : bt (t.extract (p + 14) j) k ≠ 48 ∧ bt (t.extract (p + 14) j) k ≠ 49) : Cut t (cutNo t)
  | bin (p j : Nat) (h : FirstPfx t p) (hj : FirstBr t p j) (hx : ¬ HexForm (t.extract (p + 14) j)) (hl : 1 ≤ (t.extract (p + 14) j).size ∧ (t.extract (p + 14) j).size ≤ 64) (hb : ∀ k, k < (t.extract (p + 14) j).size → bt (t.extract (p + 14) j) k = 48 ∨ bt (t.extract (p + 14) j) k = 49) :
      Cut t (cutYes (cutS t p (j + 1)) (binFold (t.extract (p + 14) j) (t.extract (p + 14) j).size))

theorem pfx_byte {t : ByteArray} {q : Nat} (h : Pfx t q) (_hq : q + 14 ≤ t.size) : bt t q = 91 := by
  have e : bt (t.extract q (q + 14)) 0 = bt t q := by
    rw [bt_getD, bt_getD, L_extract]
    simp only [List.getD, List.getElem?_drop, List.getElem?_take]
    rw [if_pos (by omega)]; simp
  rw [← e, h]; rfl
theorem P14_toList : P14.toList = [91, 98, 105, 115, 101, 99, 116, 45, 109, 97, 116, 99, 104, 32] := by rw [toList_L]; rfl
theorem cut0 {t x y : ByteArray} (h : x = t.extract 0 0 ++ y) : x = y := by
  rw [h]; apply L_inj; rw [L_append, L_extract]; simp
theorem beq_str {a b : ByteArray} : (a.toList == b.toList) = true ↔ a = b := by
  rw [beq_iff_eq, toList_L, toList_L]; exact ⟨L_inj, fun h => by rw [h]⟩

set_option maxRecDepth 100000 in
set_option maxHeartbeats 4000000 in
theorem cut_any (t : ByteArray) (ht : t.size ≤ 4294967296) (w : World) :
    Calls Try.prog 29 #[.string t] w fun e w' => Cut t e ∧ Below w.heap.size w w' := by
  have hb := get_bt t
  go_enter Try.func29, Try.ntmps29
  go_wp2
  go_loop [3, 6] (fun vv iv => ∃ i : Nat, vv = .int .u64 0 ∧ iv = .int .i64 i ∧ i ≤ t.size ∧ Hid (∀ q, q < i → ¬ Pfx t q)) (fun _ iv => t.size - (intOf iv).toNat)
  case atStart => exact ⟨0, rfl, rfl, Nat.zero_le _, fun q h => absurd h (by omega)⟩
  case round =>
    obtain ⟨i, rfl, rfl, hi, HQ⟩ := hrel
    by_cases hlt : i + 14 < t.size
    · by_cases h91 : (bt t i == 91) = true
      · cases hpf : ((t.extract i (i + 14)).toList == P14.toList) with
        | false =>
          have HP : Hid (¬ Pfx t i) := fun h => by
            have := beq_str.2 h; rw [hpf] at this; cases this
          rw [P14_toList] at hpf
          go_wp2
          go_round
          case rel => exact ⟨i + 1, rfl, by go_num, by omega, (fun q hq => by
            rcases Nat.lt_succ_iff_lt_or_eq.1 hq with h | h
            · exact HQ.out q h
            · subst h; exact HP.out)⟩
          case measure => simp [intOf]; omega
        | true =>
          have HP : Hid (FirstPfx t i) := ⟨hlt, beq_str.1 hpf, HQ.out⟩
          rw [P14_toList] at hpf
          have hd21 : decide ((t.size : Int) - 14 ≤ (i : Int)) = false := by rw [decide_eq_false_iff_not]; omega
          go_wp2
          go_loop [7] (fun jv => ∃ j : Nat, jv = .int .i64 j ∧ i + 14 ≤ j ∧ j ≤ t.size ∧ Hid (∀ q, i + 14 ≤ q → q < j → bt t q ≠ 93)) (fun jv => t.size - (intOf jv).toNat)
          case atStart => exact ⟨i + 14, by go_num, Nat.le_refl _, by omega, fun q h1 h2 => absurd h1 (by omega)⟩
          case round =>
            obtain ⟨j, rfl, hj1, hj, HJ⟩ := hrel
            by_cases hjl : j < t.size
            · by_cases h93 : (bt t j != 93) = true
              · go_wp2
                go_round
                case rel => exact ⟨j + 1, by go_num, by omega, by omega, (fun q h1 h2 => by
                  rcases Nat.lt_succ_iff_lt_or_eq.1 h2 with h | h
                  · exact HJ.out q h1 h
                  · subst h; simpa using h93)⟩
                case measure => simp [intOf]; omega
              · have h93' : (bt t j != 93) = false := by simpa using h93
                have HF : Hid (FirstBr t i j) := ⟨hj1, hjl, by simpa using h93', HJ.out⟩
                clear h93
                have hge : decide ((t.size : Int) ≤ (j : Int)) = false := by rw [decide_eq_false_iff_not]; omega
                have hdz : (t.extract (i + 14) j).size = j - (i + 14) := by simp; omega
                have HDZ := Lib.hid hdz
                clear hdz
                go_upto_region 13 with (fail)
                have c1 := Cut.long (t := t) i j HP.out HF.out
                have c2 := Cut.hex (t := t) i j HP.out HF.out
                have c3 := Cut.size (t := t) i j HP.out HF.out
                have c4 := Cut.bad (t := t) i j (h := HP.out) (hj := HF.out)
                have c5 := Cut.bin (t := t) i j HP.out HF.out
                generalize t.extract (i + 14) j = d at *
                have C1 := Lib.hid c1
                have C2 := Lib.hid c2
                have C3 := Lib.hid c3
                have C4 := Lib.hid c4
                have C5 := Lib.hid c5
                clear c1 c2 c3 c4 c5
                have hdm : d.size ≤ 4294967296 := by have := HDZ.out; omega
                have hbd := get_bt d
                by_cases h3 : 3 ≤ d.size
                · cases hxx : ((d.extract 0 2).toList == (⟨#[48, 120]⟩ : ByteArray).toList) with
                  | true =>
                    have HX : Hid (HexForm d) := ⟨h3, beq_str.1 hxx⟩
                    rw [show (⟨#[48, 120]⟩ : ByteArray).toList = [48, 120] by rw [toList_L]; rfl] at hxx
                    by_cases h18 : 18 < d.size
                    · go_wp2
                      go_ret3
                      exact ⟨C1.out HX.out h18, Below.refl _ _⟩
                    · have h18' : decide (18 < (d.size : Int)) = false := by rw [decide_eq_false_iff_not]; omega
                      go_wp2
                      go_loop [3, 9] (fun vv kv => ∃ (k : Nat) (v : Int), kv = .int .i64 ((2 + k : Nat) : Int) ∧ 2 + k ≤ d.size ∧ vv = .int .u64 v ∧ Hid (v = hexFold d k)) (fun _ kv => d.size - (intOf kv).toNat)
                      case atStart => exact ⟨0, 0, rfl, by omega, rfl, rfl⟩
                      case round =>
                        obtain ⟨k, v, rfl, hk, rfl, HV⟩ := hrel
                        have q0 := bt_nonneg d (2 + k)
                        have q1 := bt_le d (2 + k)
                        by_cases hkd : 2 + k < d.size
                        · have HST : Hid (hexFold d (k + 1) = hexStep v (bt d (2 + k))) := by show hexStep (hexFold d k) _ = _; rw [← HV.out]
                          by_cases c1 : 48 ≤ bt d (2 + k) ∧ bt d (2 + k) ≤ 57
                          · have HX1 := Lib.hid (show hexStep v (bt d (2 + k)) = bits .or .u64 (IntKind.u64.wrap (v * 16)) (bt d (2 + k) - 48) from if_pos c1)
                            obtain ⟨c1a, c1b⟩ := c1
                            go_wp2
                            go_round
                            case rel => exact ⟨k + 1, _, by go_num, by omega, rfl, by show _ = _; rw [HST.out, HX1.out]⟩
                            case measure => simp [intOf]; omega
                          · by_cases c2 : 97 ≤ bt d (2 + k) ∧ bt d (2 + k) ≤ 102
                            · have HX1 := Lib.hid (show hexStep v (bt d (2 + k)) = bits .or .u64 (IntKind.u64.wrap (v * 16)) (bt d (2 + k) - 97 + 10) by unfold hexStep; rw [if_neg c1, if_pos c2])
                              obtain ⟨c2a, c2b⟩ := c2
                              have c1n : ¬ bt d (2 + k) ≤ 57 := by omega
                              clear c1
                              go_wp2
                              go_round
                              case rel => exact ⟨k + 1, _, by go_num, by omega, rfl, by show _ = _; rw [HST.out, HX1.out]⟩
                              case measure => simp [intOf]; omega
                            · by_cases c3 : 65 ≤ bt d (2 + k) ∧ bt d (2 + k) ≤ 70
                              · have HX1 := Lib.hid (show hexStep v (bt d (2 + k)) = bits .or .u64 (IntKind.u64.wrap (v * 16)) (bt d (2 + k) - 65 + 10) by unfold hexStep; rw [if_neg c1, if_neg c2, if_pos c3])
                                obtain ⟨c3a, c3b⟩ := c3
                                have c1n : ¬ bt d (2 + k) ≤ 57 := by omega
                                have c2n : ¬ 97 ≤ bt d (2 + k) := by omega
                                clear c1 c2
                                go_wp2
                                go_round
                                case rel => exact ⟨k + 1, _, by go_num, by omega, rfl, by show _ = _; rw [HST.out, HX1.out]⟩
                                case measure => simp [intOf]; omega
                              · have HX1 := Lib.hid (show hexStep v (bt d (2 + k)) = IntKind.u64.wrap (v * 16) by unfold hexStep; rw [if_neg c1, if_neg c2, if_neg c3])
                                have cc : bt d (2 + k) < 48 ∨ (57 < bt d (2 + k) ∧ bt d (2 + k) < 65) ∨ (70 < bt d (2 + k) ∧ bt d (2 + k) < 97) ∨ 102 < bt d (2 + k) := by omega
                                clear c1 c2 c3
                                rcases cc with cc | ⟨cc, cd⟩ | ⟨cc, cd⟩ | cc
                                all_goals
                                  go_wp2
                                  go_round
                                  case rel => exact ⟨k + 1, _, by go_num, by omega, rfl, by show _ = _; rw [HST.out, HX1.out]⟩
                                  case measure => simp [intOf]; omega
                        · have HEND : Hid (Cut t (cutYes (cutS t i (j + 1)) v)) := by
                            show Cut t _; rw [HV.out, show k = d.size - 2 by omega]; exact C2.out HX.out (by omega)
                          clear q0 q1 hbd
                          by_cases hsp : 0 < i ∧ bt t (i - 1) = 32
                          · obtain ⟨hi0, hi32⟩ := hsp
                            have hi32' : (bt t (i - 1) == 32) = true := by rw [hi32]; rfl
                            have HCS := Lib.hid (show cutS t i (j + 1) = t.extract 0 (i - 1) ++ t.extract (j + 1) t.size from if_pos ⟨hi0, hi32⟩)
                            clear hi32
                            go_wp2
                            go_quiet (fail)
                            go_wp2
                            go_ret3
                            exact ⟨by first | (rw [← HCS.out]; exact HEND.out) | (rw [← HC0.out]; exact HEND.out), below_drewN (Below.refl _ _) _⟩
                          · have hcs1 : (0 < i ∧ (bt t (i - 1) == 32) = false) ∨ i = 0 := by
                              rcases Nat.eq_zero_or_pos i with h | h
                              · exact .inr h
                              · exact .inl ⟨h, by rw [beq_eq_false_iff_ne]; exact fun e => hsp ⟨h, e⟩⟩
                            by_cases hsb : j + 1 < t.size ∧ bt t (j + 1) = 32
                            · obtain ⟨hj0, hj32⟩ := hsb
                              have hj32' : (bt t (j + 1) == 32) = true := by rw [hj32]; rfl
                              have HCS := Lib.hid (show cutS t i (j + 1) = t.extract 0 i ++ t.extract (j + 1 + 1) t.size by unfold cutS; rw [if_neg hsp, if_pos ⟨hj0, hj32⟩])
                              clear hj32 hsp
                              rcases hcs1 with ⟨hi0, hi32⟩ | hi0
                              · go_wp2
                                go_quiet (fail)
                                go_wp2
                                go_ret3
                                exact ⟨by first | (rw [← HCS.out]; exact HEND.out) | (rw [← HC0.out]; exact HEND.out), below_drewN (Below.refl _ _) _⟩
                              · subst hi0
                                have HC0 := Lib.hid (cut0 HCS.out)
                                clear HCS
                                go_wp2
                                go_quiet (fail)
                                go_wp2
                                go_ret3
                                exact ⟨by first | (rw [← HCS.out]; exact HEND.out) | (rw [← HC0.out]; exact HEND.out), below_drewN (Below.refl _ _) _⟩
                            · have HCS := Lib.hid (show cutS t i (j + 1) = t.extract 0 i ++ t.extract (j + 1) t.size by unfold cutS; rw [if_neg hsp, if_neg hsb])
                              have hcs2 : (j + 1 < t.size ∧ (bt t (j + 1) == 32) = false) ∨ ¬ (j + 1 < t.size) := by
                                by_cases h : j + 1 < t.size
                                · exact .inl ⟨h, by rw [beq_eq_false_iff_ne]; exact fun e => hsb ⟨h, e⟩⟩
                                · exact .inr h
                              clear hsp hsb
                              rcases hcs1 with ⟨hi0, hi32⟩ | hi0
                              · rcases hcs2 with ⟨hj0, hj32⟩ | hj0
                                all_goals
                                  go_wp2
                                  go_quiet (fail)
                                  go_wp2
                                  go_ret3
                                  exact ⟨by first | (rw [← HCS.out]; exact HEND.out) | (rw [← HC0.out]; exact HEND.out), below_drewN (Below.refl _ _) _⟩
                              · subst hi0
                                have HC0 := Lib.hid (cut0 HCS.out)
                                clear HCS
                                rcases hcs2 with ⟨hj0, hj32⟩ | hj0
                                all_goals
                                  go_wp2
                                  go_quiet (fail)
                                  go_wp2
                                  go_ret3
                                  exact ⟨by first | (rw [← HCS.out]; exact HEND.out) | (rw [← HC0.out]; exact HEND.out), below_drewN (Below.refl _ _) _⟩

                  | false =>
                    have HX : Hid (¬ HexForm d) := fun h => by
                      have := beq_str.2 h.2; rw [hxx] at this; cases this
                    rw [show (⟨#[48, 120]⟩ : ByteArray).toList = [48, 120] by rw [toList_L]; rfl] at hxx
                    by_cases h0 : d.size = 0
                    · have h0' : d.toList.isEmpty = true := isEmpty_yes d h0
                      go_wp2
                      go_ret3
                      exact ⟨C3.out HX.out (.inl h0), Below.refl _ _⟩
                    have h0' : d.toList.isEmpty = false := isEmpty_no d (by omega)
                    by_cases h64 : 64 < d.size
                    · go_wp2
                      go_ret3
                      exact ⟨C3.out HX.out (.inr h64), Below.refl _ _⟩
                    have h64' : decide (64 < (d.size : Int)) = false := by rw [decide_eq_false_iff_not]; omega
                    have h3d : decide (3 ≤ (d.size : Int)) = decide (3 ≤ d.size) := by rw [decide_eq_decide]; omega
                    have H3D := Lib.hid h3d
                    clear h3d
                    go_wp2
                    go_loop [3, 11] (fun vv kv => ∃ (k : Nat) (v : Int), kv = .int .i64 k ∧ k ≤ d.size ∧ vv = .int .u64 v ∧ Hid (v = binFold d k) ∧ Hid (∀ q, q < k → bt d q = 48 ∨ bt d q = 49)) (fun _ kv => d.size - (intOf kv).toNat)
                    case atStart => exact ⟨0, 0, rfl, by omega, rfl, rfl, fun q h => absurd h (by omega)⟩
                    case round =>
                      obtain ⟨k, v, rfl, hk, rfl, HV, HB⟩ := hrel
                      have q0 := bt_nonneg d k
                      have q1 := bt_le d k
                      by_cases hkd : k < d.size
                      · by_cases h48 : (bt d k == 48) = true
                        · have e48 : bt d k = 48 := by simpa using h48
                          have hge : 48 ≤ bt d k := by omega
                          have E48 := Lib.hid e48
                          clear e48
                          go_wp2
                          go_round
                          case rel => exact ⟨k + 1, _, by go_num, by omega, rfl, by show _ = binStep (binFold d k) (bt d k); rw [← HV.out]; first | rfl | (rw [E48.out]; rfl) | (rw [E49.out]; rfl), (fun q hq => by
                            rcases Nat.lt_succ_iff_lt_or_eq.1 hq with h | h
                            · exact HB.out q h
                            · subst h; exact .inl E48.out)⟩
                          case measure => simp [intOf]; omega
                        · have h48' : (bt d k == 48) = false := by simpa using h48
                          clear h48
                          by_cases h49 : (bt d k == 49) = true
                          · have E49 : Hid (bt d k = 49) := by show bt d k = 49; simpa using h49
                            have hge : 48 ≤ bt d k := by rw [E49.out]; omega
                            go_wp2
                            go_round
                            case rel => exact ⟨k + 1, _, by go_num, by omega, rfl, by show _ = binStep (binFold d k) (bt d k); rw [← HV.out]; first | rfl | (rw [E48.out]; rfl) | (rw [E49.out]; rfl), (fun q hq => by
                              rcases Nat.lt_succ_iff_lt_or_eq.1 hq with h | h
                              · exact HB.out q h
                              · subst h; exact .inr E49.out)⟩
                            case measure => simp [intOf]; omega
                          · have h49' : (bt d k == 49) = false := by simpa using h49
                            have HBB : Hid (bt d k ≠ 48 ∧ bt d k ≠ 49) := ⟨beq_eq_false_iff_ne.1 h48', beq_eq_false_iff_ne.1 h49'⟩
                            clear h49
                            go_wp2
                            go_ret3
                            exact ⟨C4.out k HX.out hkd HBB.out, Below.refl _ _⟩
                      · obtain rfl : k = d.size := by omega
                        have HEND : Hid (Cut t (cutYes (cutS t i (j + 1)) v)) := by show Cut t _; rw [HV.out]; exact C5.out HX.out (by omega) HB.out
                        clear q0 q1 hbd
                        by_cases hsp : 0 < i ∧ bt t (i - 1) = 32
                        · obtain ⟨hi0, hi32⟩ := hsp
                          have hi32' : (bt t (i - 1) == 32) = true := by rw [hi32]; rfl
                          have HCS := Lib.hid (show cutS t i (j + 1) = t.extract 0 (i - 1) ++ t.extract (j + 1) t.size from if_pos ⟨hi0, hi32⟩)
                          clear hi32
                          go_wp2
                          go_quiet (fail)
                          go_wp2
                          go_ret3
                          exact ⟨by first | (rw [← HCS.out]; exact HEND.out) | (rw [← HC0.out]; exact HEND.out), below_drewN (Below.refl _ _) _⟩
                        · have hcs1 : (0 < i ∧ (bt t (i - 1) == 32) = false) ∨ i = 0 := by
                            rcases Nat.eq_zero_or_pos i with h | h
                            · exact .inr h
                            · exact .inl ⟨h, by rw [beq_eq_false_iff_ne]; exact fun e => hsp ⟨h, e⟩⟩
                          by_cases hsb : j + 1 < t.size ∧ bt t (j + 1) = 32
                          · obtain ⟨hj0, hj32⟩ := hsb
                            have hj32' : (bt t (j + 1) == 32) = true := by rw [hj32]; rfl
                            have HCS := Lib.hid (show cutS t i (j + 1) = t.extract 0 i ++ t.extract (j + 1 + 1) t.size by unfold cutS; rw [if_neg hsp, if_pos ⟨hj0, hj32⟩])
                            clear hj32 hsp
                            rcases hcs1 with ⟨hi0, hi32⟩ | hi0
                            · go_wp2
                              go_quiet (fail)
                              go_wp2
                              go_ret3
                              exact ⟨by first | (rw [← HCS.out]; exact HEND.out) | (rw [← HC0.out]; exact HEND.out), below_drewN (Below.refl _ _) _⟩
                            · subst hi0
                              have HC0 := Lib.hid (cut0 HCS.out)
                              clear HCS
                              go_wp2
                              go_quiet (fail)
                              go_wp2
                              go_ret3
                              exact ⟨by first | (rw [← HCS.out]; exact HEND.out) | (rw [← HC0.out]; exact HEND.out), below_drewN (Below.refl _ _) _⟩
                          · have HCS := Lib.hid (show cutS t i (j + 1) = t.extract 0 i ++ t.extract (j + 1) t.size by unfold cutS; rw [if_neg hsp, if_neg hsb])
                            have hcs2 : (j + 1 < t.size ∧ (bt t (j + 1) == 32) = false) ∨ ¬ (j + 1 < t.size) := by
                              by_cases h : j + 1 < t.size
                              · exact .inl ⟨h, by rw [beq_eq_false_iff_ne]; exact fun e => hsb ⟨h, e⟩⟩
                              · exact .inr h
                            clear hsp hsb
                            rcases hcs1 with ⟨hi0, hi32⟩ | hi0
                            · rcases hcs2 with ⟨hj0, hj32⟩ | hj0
                              all_goals
                                go_wp2
                                go_quiet (fail)
                                go_wp2
                                go_ret3
                                exact ⟨by first | (rw [← HCS.out]; exact HEND.out) | (rw [← HC0.out]; exact HEND.out), below_drewN (Below.refl _ _) _⟩
                            · subst hi0
                              have HC0 := Lib.hid (cut0 HCS.out)
                              clear HCS
                              rcases hcs2 with ⟨hj0, hj32⟩ | hj0
                              all_goals
                                go_wp2
                                go_quiet (fail)
                                go_wp2
                                go_ret3
                                exact ⟨by first | (rw [← HCS.out]; exact HEND.out) | (rw [← HC0.out]; exact HEND.out), below_drewN (Below.refl _ _) _⟩

                · have HX : Hid (¬ HexForm d) := fun h => h3 h.1
                  by_cases h0 : d.size = 0
                  · have h0' : d.toList.isEmpty = true := isEmpty_yes d h0
                    go_wp2
                    go_ret3
                    exact ⟨C3.out HX.out (.inl h0), Below.refl _ _⟩
                  have h0' : d.toList.isEmpty = false := isEmpty_no d (by omega)
                  have h64' : decide (64 < (d.size : Int)) = false := by rw [decide_eq_false_iff_not]; omega
                  have h3d : decide (3 ≤ (d.size : Int)) = decide (3 ≤ d.size) := by rw [decide_eq_decide]; omega
                  have H3D := Lib.hid h3d
                  clear h3d
                  go_wp2
                  go_loop [3, 11] (fun vv kv => ∃ (k : Nat) (v : Int), kv = .int .i64 k ∧ k ≤ d.size ∧ vv = .int .u64 v ∧ Hid (v = binFold d k) ∧ Hid (∀ q, q < k → bt d q = 48 ∨ bt d q = 49)) (fun _ kv => d.size - (intOf kv).toNat)
                  case atStart => exact ⟨0, 0, rfl, by omega, rfl, rfl, fun q h => absurd h (by omega)⟩
                  case round =>
                    obtain ⟨k, v, rfl, hk, rfl, HV, HB⟩ := hrel
                    have q0 := bt_nonneg d k
                    have q1 := bt_le d k
                    by_cases hkd : k < d.size
                    · by_cases h48 : (bt d k == 48) = true
                      · have e48 : bt d k = 48 := by simpa using h48
                        have hge : 48 ≤ bt d k := by omega
                        have E48 := Lib.hid e48
                        clear e48
                        go_wp2
                        go_round
                        case rel => exact ⟨k + 1, _, by go_num, by omega, rfl, by show _ = binStep (binFold d k) (bt d k); rw [← HV.out]; first | rfl | (rw [E48.out]; rfl) | (rw [E49.out]; rfl), (fun q hq => by
                          rcases Nat.lt_succ_iff_lt_or_eq.1 hq with h | h
                          · exact HB.out q h
                          · subst h; exact .inl E48.out)⟩
                        case measure => simp [intOf]; omega
                      · have h48' : (bt d k == 48) = false := by simpa using h48
                        clear h48
                        by_cases h49 : (bt d k == 49) = true
                        · have E49 : Hid (bt d k = 49) := by show bt d k = 49; simpa using h49
                          have hge : 48 ≤ bt d k := by rw [E49.out]; omega
                          go_wp2
                          go_round
                          case rel => exact ⟨k + 1, _, by go_num, by omega, rfl, by show _ = binStep (binFold d k) (bt d k); rw [← HV.out]; first | rfl | (rw [E48.out]; rfl) | (rw [E49.out]; rfl), (fun q hq => by
                            rcases Nat.lt_succ_iff_lt_or_eq.1 hq with h | h
                            · exact HB.out q h
                            · subst h; exact .inr E49.out)⟩
                          case measure => simp [intOf]; omega
                        · have h49' : (bt d k == 49) = false := by simpa using h49
                          have HBB : Hid (bt d k ≠ 48 ∧ bt d k ≠ 49) := ⟨beq_eq_false_iff_ne.1 h48', beq_eq_false_iff_ne.1 h49'⟩
                          clear h49
                          go_wp2
                          go_ret3
                          exact ⟨C4.out k HX.out hkd HBB.out, Below.refl _ _⟩
                    · obtain rfl : k = d.size := by omega
                      have HEND : Hid (Cut t (cutYes (cutS t i (j + 1)) v)) := by show Cut t _; rw [HV.out]; exact C5.out HX.out (by omega) HB.out
                      clear q0 q1 hbd
                      by_cases hsp : 0 < i ∧ bt t (i - 1) = 32
                      · obtain ⟨hi0, hi32⟩ := hsp
                        have hi32' : (bt t (i - 1) == 32) = true := by rw [hi32]; rfl
                        have HCS := Lib.hid (show cutS t i (j + 1) = t.extract 0 (i - 1) ++ t.extract (j + 1) t.size from if_pos ⟨hi0, hi32⟩)
                        clear hi32
                        go_wp2
                        go_quiet (fail)
                        go_wp2
                        go_ret3
                        exact ⟨by first | (rw [← HCS.out]; exact HEND.out) | (rw [← HC0.out]; exact HEND.out), below_drewN (Below.refl _ _) _⟩
                      · have hcs1 : (0 < i ∧ (bt t (i - 1) == 32) = false) ∨ i = 0 := by
                          rcases Nat.eq_zero_or_pos i with h | h
                          · exact .inr h
                          · exact .inl ⟨h, by rw [beq_eq_false_iff_ne]; exact fun e => hsp ⟨h, e⟩⟩
                        by_cases hsb : j + 1 < t.size ∧ bt t (j + 1) = 32
                        · obtain ⟨hj0, hj32⟩ := hsb
                          have hj32' : (bt t (j + 1) == 32) = true := by rw [hj32]; rfl
                          have HCS := Lib.hid (show cutS t i (j + 1) = t.extract 0 i ++ t.extract (j + 1 + 1) t.size by unfold cutS; rw [if_neg hsp, if_pos ⟨hj0, hj32⟩])
                          clear hj32 hsp
                          rcases hcs1 with ⟨hi0, hi32⟩ | hi0
                          · go_wp2
                            go_quiet (fail)
                            go_wp2
                            go_ret3
                            exact ⟨by first | (rw [← HCS.out]; exact HEND.out) | (rw [← HC0.out]; exact HEND.out), below_drewN (Below.refl _ _) _⟩
                          · subst hi0
                            have HC0 := Lib.hid (cut0 HCS.out)
                            clear HCS
                            go_wp2
                            go_quiet (fail)
                            go_wp2
                            go_ret3
                            exact ⟨by first | (rw [← HCS.out]; exact HEND.out) | (rw [← HC0.out]; exact HEND.out), below_drewN (Below.refl _ _) _⟩
                        · have HCS := Lib.hid (show cutS t i (j + 1) = t.extract 0 i ++ t.extract (j + 1) t.size by unfold cutS; rw [if_neg hsp, if_neg hsb])
                          have hcs2 : (j + 1 < t.size ∧ (bt t (j + 1) == 32) = false) ∨ ¬ (j + 1 < t.size) := by
                            by_cases h : j + 1 < t.size
                            · exact .inl ⟨h, by rw [beq_eq_false_iff_ne]; exact fun e => hsb ⟨h, e⟩⟩
                            · exact .inr h
                          clear hsp hsb
                          rcases hcs1 with ⟨hi0, hi32⟩ | hi0
                          · rcases hcs2 with ⟨hj0, hj32⟩ | hj0
                            all_goals
                              go_wp2
                              go_quiet (fail)
                              go_wp2
                              go_ret3
                              exact ⟨by first | (rw [← HCS.out]; exact HEND.out) | (rw [← HC0.out]; exact HEND.out), below_drewN (Below.refl _ _) _⟩
                          · subst hi0
                            have HC0 := Lib.hid (cut0 HCS.out)
                            clear HCS
                            rcases hcs2 with ⟨hj0, hj32⟩ | hj0
                            all_goals
                              go_wp2
                              go_quiet (fail)
                              go_wp2
                              go_ret3
                              exact ⟨by first | (rw [← HCS.out]; exact HEND.out) | (rw [← HC0.out]; exact HEND.out), below_drewN (Below.refl _ _) _⟩

            · obtain rfl : j = t.size := by omega
              go_wp2
              go_ret3
              exact ⟨Cut.open_ i HP.out HJ.out, Below.refl _ _⟩
      · have h91' : (bt t i == 91) = false := by simpa using h91
        have HP : Hid (¬ Pfx t i) := fun h => by
          have := pfx_byte h (by omega); rw [this] at h91'; simp at h91'
        clear h91
        go_wp2
        go_round
        case rel => exact ⟨i + 1, rfl, by go_num, by omega, (fun q hq => by
          rcases Nat.lt_succ_iff_lt_or_eq.1 hq with h | h
          · exact HQ.out q h
          · subst h; exact HP.out)⟩
        case measure => simp [intOf]; omega
    · go_wp2
      go_ret3
      exact ⟨Cut.none (fun q hq => HQ.out q (by omega)), Below.refl _ _⟩
end Go.Proofs.Ytnjdckhaecdldaa
