/-
  The contracts of spec.isSign, spec.IsBits, (*spec.Pattern).terms. For every text of at most 4294967296 bytes.
-/
import Derived.Test.YtnjdckhaecdldaaMat
import Derived.Test.YtnjdckhaecdldaaStepRow
import Derived.Lib.Hide
import Derived.Outline
import Derived.Deep.DeepCutAuto
import Derived.Deep.CutBlock
set_option linter.unusedVariables false
namespace Go.Proofs.Ytnjdckhaecdldaa
open Go.RowKit Go.PlainAid Go.Lib

def sgB (c : Int) : Bool := c == 43 || c == 45
theorem isSign_any (c : Int) (w : World) : Calls Try.prog 32 #[.int .u8 c] w fun e w' => e = .returned (.bool (sgB c)) ∧ w = w' := by
  cases h1 : (c == 43) with
  | true =>
    go_enter Try.func32, Try.ntmps32
    go_wp2
    go_ret
    exact ⟨by simp [sgB, h1], rfl⟩
  | false =>
    go_enter Try.func32, Try.ntmps32
    go_wp2
    go_ret
    exact ⟨by simp [sgB, h1], rfl⟩
theorem bits_list {s : ByteArray} (h1 : 1 ≤ s.size) (h2 : s.size ≤ 60) (h : ∀ k, k < s.size → bt s k = 48 ∨ bt s k = 49) : isBitsL (L s) := by
  refine .inr ⟨by rw [L_len]; exact h1, by rw [L_len]; exact h2, fun c hc => ?_⟩
  obtain ⟨k, hk, rfl⟩ := List.getElem_of_mem hc
  have hk' : k < s.size := by rw [← L_len]; exact hk
  have := h k hk'
  rw [bt_L s k hk'] at this
  rcases this with h | h
  · exact .inl ((u8_is (n := 48) (by omega)).1 (by simpa using h))
  · exact .inr ((u8_is (n := 49) (by omega)).1 (by simpa using h))
def IsBitsPost (s : ByteArray) (w : World) (e : Ending) (w' : World) : Prop :=
  ∃ b, e = .returned (.bool b) ∧ w = w' ∧ (b = true → isBitsL (L s))
theorem isBits_any (s : ByteArray) (hs : s.size ≤ 4294967296) (w : World) : Calls Try.prog 21 #[.string s] w (IsBitsPost s w) := by
  have hb := get_bt s
  cases hy : (s.toList == (⟨#[121]⟩ : ByteArray).toList) with
  | true =>
    have HY : Hid (s = ⟨#[121]⟩) := beq_str.1 hy
    rw [show (⟨#[121]⟩ : ByteArray).toList = [121] by rw [toList_L]; rfl] at hy
    go_enter Try.func21, Try.ntmps21
    go_wp2
    go_ret
    exact ⟨true, rfl, rfl, fun _ => .inl (by rw [HY.out]; rfl)⟩
  | false =>
    rw [show (⟨#[121]⟩ : ByteArray).toList = [121] by rw [toList_L]; rfl] at hy
    go_enter Try.func21, Try.ntmps21
    go_wp2
    go_loop [8] (fun iv => ∃ k : Nat, iv = .int .i64 k ∧ k ≤ s.size ∧ Hid (∀ q, q < k → bt s q = 48 ∨ bt s q = 49)) (fun iv => s.size - (intOf iv).toNat)
    case atStart => exact ⟨0, rfl, Nat.zero_le _, fun q h => absurd h (by omega)⟩
    case round =>
      obtain ⟨k, rfl, hk, HQ⟩ := hrel
      by_cases hlt : k < s.size
      · by_cases h48 : (bt s k != 48) = true
        · by_cases h49 : (bt s k != 49) = true
          · go_wp2
            go_ret
            exact ⟨false, rfl, rfl, fun h => by cases h⟩
          · have h49' : (bt s k != 49) = false := by simpa using h49
            have E49 : Hid (bt s k = 49) := by show bt s k = 49; simpa using h49'
            clear h49
            go_wp2
            go_round
            case rel => exact ⟨k + 1, by go_num, by omega, (fun q hq => by
              rcases Nat.lt_succ_iff_lt_or_eq.1 hq with h | h
              · exact HQ.out q h
              · subst h; exact .inr E49.out)⟩
            case measure => simp [intOf]; omega
        · have h48' : (bt s k != 48) = false := by simpa using h48
          have E48 : Hid (bt s k = 48) := by show bt s k = 48; simpa using h48'
          clear h48
          go_wp2
          go_round
          case rel => exact ⟨k + 1, by go_num, by omega, (fun q hq => by
            rcases Nat.lt_succ_iff_lt_or_eq.1 hq with h | h
            · exact HQ.out q h
            · subst h; exact .inl E48.out)⟩
          case measure => simp [intOf]; omega
      · by_cases hz : 1 ≤ s.size
        · by_cases h60 : s.size ≤ 60
          · have e60 : decide ((s.size : Int) ≤ 60) = true := by simp; omega
            go_wp2
            go_ret
            exact ⟨true, rfl, rfl, fun _ => bits_list hz h60 fun q hq => HQ.out q (by omega)⟩
          · have e60 : decide ((s.size : Int) ≤ 60) = false := by simp; omega
            go_wp2
            go_ret
            exact ⟨false, rfl, rfl, fun h => by cases h⟩
        · go_wp2
          go_ret
          exact ⟨false, by first | rfl | simp [*], rfl, fun h => by cases h⟩

def termCells (l : List (Bs × Bool)) : List Value := l.flatMap fun t => [S t.1, .bool t.2]
theorem termCells_append (l m : List (Bs × Bool)) : termCells (l ++ m) = termCells l ++ termCells m := by simp [termCells]
theorem termCells_len (l : List (Bs × Bool)) : (termCells l).length = l.length * 2 := by
  induction l with
  | nil => rfl
  | cons a l ih => rw [show a :: l = [a] ++ l from rfl, termCells_append, List.length_append, ih]; simp [termCells]; omega
theorem infoTerm : (Try.prog.info? 48).map (fun i => (i.zero, i.size, i.bytes)) = some (some (.agg #[.string ⟨#[]⟩, .bool false]), 2, 24) := by kernel_rfl
theorem src2 {P : Program} {tx e : TypeId} (hk : P.underlying tx = some (.slice e)) (w : World) (x y : Value) (hx : x.oneCell' = true) (hy : y.oneCell' = true) (t : TypeId) :
    Src P 2 tx (.slice (some ⟨w.heap.size, 0, none⟩) 1 1) 1 [x, y] (w.alloc (.cells #[x, y] t)) := by
  refine Src.ofSlice (w.alloc (.cells #[x, y] t)) hk ⟨w.heap.size, 0, none⟩ 1 1 [x, y] rfl (fun j u hu => ?_) (fun u hu => by simp at hu; rcases hu with rfl | rfl <;> assumption)
  rw [Addr.add_lit, Nat.zero_add, World.cell?_alloc_new]
  simpa using hu
theorem row_term {w : World} {B : Nat} {v : Value} {list : List (Bs × Bool)} {b : Bs} {r : Bool} (h : Row w B 2 v (list.length + 1) (termCells list ++ [S b, .bool r])) :
    Row w B 2 v (list ++ [(b, r)]).length (termCells (list ++ [(b, r)])) := by
  rw [termCells_append, List.length_append]; exact h
def TermsPost (s : ByteArray) (w : World) (b : Nat) (d v : Bool) (e : Ending) (w' : World) : Prop :=
  ∃ ok all ts sv, e = .returned (.bool ok) ∧ MatAt w' b d v all sv ∧ Row w' (b + 1) 2 sv ts.length (termCells ts) ∧ (ok = true → ReadTerms (L s) all ts) ∧ (∀ t ∈ ts, isBitsL t.1) ∧ ts.length ≤ s.size ∧ Below b w w'
def TRel (s : ByteArray) (w : World) (b : Nat) (d v : Bool) (all : Bool) (rem : ByteArray) (add : Bool) (ts : List (Bs × Bool)) (sv : Value) (wr : World) : Prop :=
  MatAt wr b d v all sv ∧ Row wr (b + 1) 2 sv ts.length (termCells ts) ∧ (∀ r, Terms add (L rem) r → ReadTerms (L s) all (ts ++ r)) ∧ (∀ t ∈ ts, isBitsL t.1) ∧ ts.length + rem.size ≤ s.size ∧ Below b w wr
set_option maxHeartbeats 4000000 in
set_option maxRecDepth 100000 in
theorem terms_any (s : ByteArray) (w : World) (b : Nat) (d v : Bool) (hs : s.size ≤ 4294967296) (hm : MatAt w b d v false (.slice none 0 0)) : Calls Try.prog 22 #[.pointer (some ⟨b, 0, none⟩), .string s] w (TermsPost s w b d v) := by
  have HM0 := Lib.hid hm
  obtain ⟨mf, m0, m1, m2, m3⟩ := hm
  have hb := get_bt s
  go_enter Try.func22, Try.ntmps22
  go_upto_region 2 with (fail)
  go_cut [13] (fun bv wc => ∃ sg, bv = .bool sg ∧ w = wc ∧ Hid (sg = (decide (0 < s.size) && sgB (bt s 0))))
  case first =>
    by_cases h0 : 0 < s.size
    · have he := isEmpty_no s h0
      go_wp2_with (go_at_call 32; refine (isSign_any _ _).mono ?_; rintro e w' ⟨rfl, rfl⟩)
      go_meet
      case rel => exact ⟨_, rfl, rfl, by show _ = _; simp [h0]⟩
    · have he := isEmpty_yes s (by omega)
      go_wp2
      go_meet
      case rel => exact ⟨_, rfl, rfl, by show _ = _; simp [h0]⟩
  case rest =>
  obtain ⟨sg, rfl, rfl, HSG⟩ := hcut
  go_upto_if 13 with (fail)
  go_cut [1, 5] (fun rv av wc => ∃ rem add all, rv = .string rem ∧ av = .bool add ∧ rem.size ≤ s.size ∧ Hid (TRel s w b d v all rem add [] (.slice none 0 0) wc))
  case first =>
    cases sg with
    | false =>
      go_wp2
      go_meet
      case rel => exact ⟨s, true, false, rfl, rfl, Nat.le_refl _, HM0.out, Row.nil _ _ _, fun r h => .inr (.inr ⟨rfl, h⟩), (fun t h => absurd h (by simp)), (by simp), Below.refl _ _⟩
    | true =>
      obtain ⟨h0, hsg⟩ : 0 < s.size ∧ (bt s 0 = 43 ∨ bt s 0 = 45) := by have := HSG.out; simp [sgB] at this; exact this
      have HSG2 := Lib.hid hsg
      have f2 := mf 2 (by omega)
      have hxs : (s.extract 1 s.size).size = s.size - 1 := by rw [ByteArray.size_extract]; omega
      clear mf
      rcases hsg with h43 | h45
      · have e43 : (bt s 0 == 43) = true := by simp [h43]
        have HH : Hid (L s = 43 :: L (s.extract 1 s.size)) := by
          obtain ⟨c, h1, h2⟩ := L_cons s h0
          have : c = 43 := (u8_is (n := 43) (by omega)).1 (by rw [← h2, h43]; rfl)
          show _ = _
          rw [h1, this]
        clear h43
        go_wp2
        go_meet
        case rel => exact ⟨s.extract 1 s.size, true, false, rfl, rfl, by omega, HM0.out.set2 _, Row.nil _ _ _, fun r h => .inl ⟨_, HH.out, rfl, h⟩, (fun t h => absurd h (by simp)), (by simp), (Below.refl _ _).setCell (p := ⟨b, 2, none⟩) (Nat.le_refl _) _⟩
      · have e43 : (bt s 0 == 43) = false := by simp [h45]
        have HH : Hid (L s = 45 :: L (s.extract 1 s.size)) := by
          obtain ⟨c, h1, h2⟩ := L_cons s h0
          have : c = 45 := (u8_is (n := 45) (by omega)).1 (by rw [← h2, h45]; rfl)
          show _ = _
          rw [h1, this]
        clear h45
        go_wp2
        go_meet
        case rel => exact ⟨s.extract 1 s.size, false, true, rfl, rfl, by omega, HM0.out.set2 _, Row.nil _ _ _, fun r h => .inr (.inl ⟨_, HH.out, rfl, h⟩), (fun t h => absurd h (by simp)), (by simp), (Below.refl _ _).setCell (p := ⟨b, 2, none⟩) (Nat.le_refl _) _⟩
  case rest =>
  clear hb mf m0 m1 m2 m3 HSG HM0
  obtain ⟨rem, add, all, rfl, rfl, hrs, HT⟩ := hcut
  go_wp2
  go_loopw [1, 5] (fun rv av wr => ∃ rem add ts sv, rv = .string rem ∧ av = .bool add ∧ rem.size ≤ s.size ∧ Hid (TRel s w b d v all rem add ts sv wr)) (fun rv _ _ => strLen rv)
  case atStart => exact ⟨rem, add, [], _, rfl, rfl, hrs, HT.out⟩
  case round =>
    clear HT hrs
    obtain ⟨rem, add, ts, sv, rfl, rfl, hrs, HT⟩ := hrel
    have hb := get_bt rem
    go_upto_block 2 with (fail)
    go_cut [6] (fun ev wc => ∃ k : Nat, ev = .int .i64 k ∧ wr = wc ∧ k ≤ rem.size ∧ Hid (k < rem.size → sgB (bt rem k) = true))
    case first =>
      go_wp2
      go_loop [6] (fun ev => ∃ k : Nat, ev = .int .i64 k ∧ k ≤ rem.size) (fun ev => rem.size - (intOf ev).toNat)
      case atStart => exact ⟨0, rfl, Nat.zero_le _⟩
      case round =>
        obtain ⟨k, rfl, hk⟩ := hrel
        by_cases hlt : k < rem.size
        · cases hsg : sgB (bt rem k) with
          | true =>
            go_wp2_with (go_at_call 32; refine (isSign_any _ _).mono ?_; rintro e w' ⟨rfl, rfl⟩)
            go_meet
            case rel => exact ⟨k, rfl, rfl, hk, fun _ => hsg⟩
          | false =>
            go_wp2_with (go_at_call 32; refine (isSign_any _ _).mono ?_; rintro e w' ⟨rfl, rfl⟩)
            go_round
            case rel => exact ⟨k + 1, by go_num, by omega⟩
            case measure => simp [intOf]; omega
        · go_wp2
          go_meet
          case rel => exact ⟨k, rfl, rfl, hk, fun h => absurd h hlt⟩
    case rest =>
    obtain ⟨k, rfl, rfl, hk, HK⟩ := hcut
    have hxk : (rem.extract 0 k).size = k := by rw [ByteArray.size_extract]; omega
    go_wp2_with fail
    refine (isBits_any (rem.extract 0 k) (by omega) _).mono ?_
    rintro e w' ⟨bb, rfl, rfl, hbb⟩
    have HBB := Lib.hid hbb
    clear hbb
    cases bb with
    | false =>
      go_wp2
      go_ret
      obtain ⟨t1, t2, t3, t4, t5, t6⟩ := HT.out
      exact ⟨false, all, ts, sv, rfl, t1, t2, (fun h => by cases h), t4, by omega, t6⟩
    | true =>
      have HI := Lib.hid (HBB.out rfl)
      clear HBB
      obtain ⟨t1, t2, t3, t4, t5, t6⟩ := HT.out
      have HM := Lib.hid t1
      have HROW := Lib.hid t2
      have HB := Lib.hid t6
      have H3 := Lib.hid t3
      have H4 := Lib.hid t4
      obtain ⟨mf, m0, m1, m2, m3⟩ := t1
      obtain ⟨ao, cap, rfl⟩ := t2.shape
      clear mf t2 t3 t4 t6 HT
      go_upto_region 11 with (fail)
      go_cut [] (fun wc => ∃ sv2, Hid (MatAt wc b d v all sv2 ∧ Row wc (b + 1) 2 sv2 (ts ++ [(L (rem.extract 0 k), add)]).length (termCells (ts ++ [(L (rem.extract 0 k), add)])) ∧ Below b w wc))
      case first =>
        obtain ⟨i0, ii, hz0, hz1, hz2⟩ := info_parts infoTerm
        have k1 : ts.length + 1 ≤ maxLen := by unfold maxLen; omega
        have k2 : (ts.length + 1) * 24 ≤ 140737488355328 := by omega
        have HB1 := Lib.hid (HB.out.drew.alloc (show b ≤ wr.drew.heap.size from Nat.le_of_lt HM.out.lt) (.cells #[.string (rem.extract 0 k), .bool add] 48))
        have HR1 := Lib.hid (HROW.out.drew.alloc (.cells #[.string (rem.extract 0 k), .bool add] 48))
        have HM1 := Lib.hid ((show MatAt wr.drew b d v all _ from HM.out).alloc (.cells #[.string (rem.extract 0 k), .bool add] 48))
        have HS1 := Lib.hid (src2 (P := Try.prog) Try.underlying23 wr.drew (.string (rem.extract 0 k)) (.bool add) rfl rfl 48)
        have hB : b + 1 ≤ (wr.drew.alloc (.cells #[.string (rem.extract 0 k), .bool add] 48)).heap.size := HM1.out.lt
        have m3' : (wr.alloc (.cells #[.string (rem.extract 0 k), .bool add] 48)).cell? ⟨b, 3, none⟩ = some (.slice ao ts.length cap) := (HM.out.alloc _).2.2.2.2
        have hbl : b < wr.heap.size := HM.out.lt
        go_region_law (refine step_append_row rfl (.tmp 46) (.tmp 52) 23 23 rfl (b + 1) 48 i0 (.agg #[.string ⟨#[]⟩, .bool false]) 2 24 Try.underlying23 ii hz0 hz1 hz2 rfl _ _ _ HR1.out (by simp [Act.eval]) _ _ _ HS1.out (by simp [Act.eval]) k1 k2 hB ?_; intro v2 w2 hrow2 hg2 hbk2; obtain ⟨ao2, cap2, rfl⟩ := hrow2.shape; clear m0 m1 m2 m3; have hm2 := HM1.out.grown hg2 (fun g hg => HR1.out.blk g hg); have HM2 := Lib.hid hm2; have HB2 := Lib.hid (HB1.out.grown hg2 (Nat.le_of_succ_le hB) (fun g hg => Nat.le_of_succ_le (HR1.out.blk g hg))); have HROW2 := Lib.hid hrow2; obtain ⟨mf, m0, m1, m2, m3⟩ := hm2; have f3 := mf 3 (by omega); clear mf hrow2 hg2 hbk2)
        all_goals go_wp2
        all_goals go_meet
        all_goals exact ⟨_, HM2.out.set3 _, (row_term (by rw [← S_L]; exact HROW2.out)).setCell (p := ⟨b, 3, none⟩) (fun e => Nat.not_succ_le_self _ (HROW2.out.blk _ e)) _, HB2.out.setCell (p := ⟨b, 3, none⟩) (Nat.le_refl _) _⟩
      case rest =>
      obtain ⟨sv2, HX⟩ := hcut
      clear m0 m1 m2 m3 HM HROW HB
      have H4' : Hid (∀ t ∈ ts ++ [(L (rem.extract 0 k), add)], isBitsL t.1) := fun t ht => by
        rcases List.mem_append.1 ht with h | h
        · exact H4.out t h
        · simp at h; rw [h]; exact HI.out
      have hk1 : 1 ≤ k := by have := (isBits_len HI.out).1; rw [L_len, hxk] at this; exact this
      have HLEN : Hid ((ts ++ [(L (rem.extract 0 k), add)]).length = ts.length + 1) := by show _ = _; simp
      by_cases hkl : k = rem.size
      · have e1 : ((k : Int) == (rem.size : Int)) = true := by simp [hkl]
        have HRD : Hid (ReadTerms (L s) all (ts ++ [(L (rem.extract 0 k), add)])) := by
          have hx : L (rem.extract 0 k) = L rem := by rw [L_take, List.take_of_length_le (by rw [L_len]; omega)]
          apply H3.out
          rw [hx]
          rw [hx] at HI
          exact Terms.last HI.out
        have HKL := Lib.hid hkl
        clear hkl
        go_wp2
        go_ret
        obtain ⟨x1, x2, x3⟩ := HX.out
        exact ⟨true, all, _, sv2, rfl, x1, x2, fun _ => HRD.out, H4'.out, by rw [HLEN.out]; omega, x3⟩
      · have e1 : ((k : Int) == (rem.size : Int)) = false := by simp; omega
        have hkl2 : k < rem.size := by omega
        have hsg : bt rem k = 43 ∨ bt rem k = 45 := by have := HK.out hkl2; simp [sgB] at this; exact this
        have hxr : (rem.extract (k + 1) rem.size).size = rem.size - (k + 1) := by rw [ByteArray.size_extract]; omega
        have HSPLIT : ∀ c : UInt8, bt rem k = (c.toNat : Int) → L rem = L (rem.extract 0 k) ++ c :: L (rem.extract (k + 1) rem.size) := fun c hc => by
          have hl : k < (L rem).length := by rw [L_len]; exact hkl2
          rw [L_take, L_drop]
          rw [bt_L rem k hkl2] at hc
          rw [← u8_eq.1 hc, ← List.drop_eq_getElem_cons hl, List.take_append_drop]
        have HK2 := Lib.hid HSPLIT
        clear HSPLIT hkl
        rcases hsg with h43 | h45
        · have e43 : (bt rem k == 43) = true := by simp [h43]
          have HS2 := Lib.hid (HK2.out 43 (by rw [h43]; rfl))
          clear h43 HK2
          cases add with
          | false =>
            go_wp2
            go_ret
            obtain ⟨x1, x2, x3⟩ := HX.out
            exact ⟨false, all, _, sv2, rfl, x1, x2, (fun h => by cases h), H4'.out, by rw [HLEN.out]; omega, x3⟩
          | true =>
            have H3' : Hid (∀ r, Terms true (L (rem.extract (k + 1) rem.size)) r → ReadTerms (L s) all (ts ++ [(L (rem.extract 0 k), true)] ++ r)) := fun r hr => by
              rw [List.append_assoc]
              apply H3.out
              rw [HS2.out]
              exact Terms.more HI.out (.inl rfl) (fun _ => rfl) hr
            go_wp2
            go_roundw
            case rel => exact ⟨rem.extract (k + 1) rem.size, true, ts ++ [(L (rem.extract 0 k), true)], sv2, rfl, rfl, by omega, HX.out.1, HX.out.2.1, H3'.out, H4'.out, by rw [HLEN.out]; omega, HX.out.2.2⟩
            case measure => simp [strLen]; omega
        · have e43 : (bt rem k == 43) = false := by simp [h45]
          have HS2 := Lib.hid (HK2.out 45 (by rw [h45]; rfl))
          clear h45 HK2
          have H3' : Hid (∀ r, Terms false (L (rem.extract (k + 1) rem.size)) r → ReadTerms (L s) all (ts ++ [(L (rem.extract 0 k), add)] ++ r)) := fun r hr => by
            rw [List.append_assoc]
            apply H3.out
            rw [HS2.out]
            exact Terms.more HI.out (.inr rfl) (fun h => by cases h) hr
          go_wp2
          go_roundw
          case rel => exact ⟨rem.extract (k + 1) rem.size, false, ts ++ [(L (rem.extract 0 k), add)], sv2, rfl, rfl, by omega, HX.out.1, HX.out.2.1, H3'.out, H4'.out, by rw [HLEN.out]; omega, HX.out.2.2⟩
          case measure => simp [strLen]; omega
end Go.Proofs.Ytnjdckhaecdldaa
