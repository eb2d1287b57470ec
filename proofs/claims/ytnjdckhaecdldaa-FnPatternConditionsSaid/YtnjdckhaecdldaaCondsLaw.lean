/-
  The walk of the law FnPatternConditions. For every input.
-/
import Derived.Test.YtnjdckhaecdldaaConds
import Derived.Test.YtnjdckhaecdldaaMaskOf
import Derived.Test.YtnjdckhaecdldaaPatWords
set_option linter.unusedVariables false
namespace Go.Proofs.Ytnjdckhaecdldaa
open Go.RowKit Go.PlainAid Go.Lib

def fullT (all : Bool) (ts : List (Bs × Bool)) : List (Bs × Bool) := if all then ([121], true) :: ts else ts
theorem full_conds (all : Bool) (ts : List (Bs × Bool)) : allL all ++ ts.map condOf = (fullT all ts).map condOf := by
  cases all <;> rfl
theorem full_bits {all : Bool} {ts : List (Bs × Bool)} (h : ∀ t ∈ ts, isBitsL t.1) : ∀ t ∈ fullT all ts, isBitsL t.1 := by
  cases all with
  | false => exact h
  | true =>
    intro t ht
    rcases List.mem_cons.1 ht with rfl | ht
    · exact .inl rfl
    · exact h t ht
theorem src_rowN {P : Program} {tx e : TypeId} (hk : P.underlying tx = some (.slice e)) {w : World} {B size n : Nat} {a : Option Addr} {c : Nat} {xs : List Value} (hs : 0 < size) (h : Row w B size (.slice a n c) n xs) (h1 : ∀ u ∈ xs, u.oneCell' = true) : Src P size tx (.slice a n c) n xs w := by
  cases a with
  | none =>
    have h0 : n = 0 := by
      rcases Nat.eq_zero_or_pos n with h0 | h0
      · exact h0
      · obtain ⟨_, _, _, e, _⟩ := h.at_ h0 hs
        cases e
    subst h0
    have e : xs = [] := List.eq_nil_of_length_eq_zero (by rw [h.len]; simp)
    rw [e]
    exact Src.ofNil w hk c
  | some ad =>
    refine Src.ofSlice w hk ad n c _ h.len (fun j u hu => ?_) h1
    have hj : j < n * size := by
      have := (List.getElem?_eq_some_iff.1 hu).1
      rw [h.len] at this; exact this
    have h0 : 0 < n := by
      rcases Nat.eq_zero_or_pos n with h0 | h0
      · rw [h0] at hj; simp at hj
      · exact h0
    obtain ⟨g, o, cap, e, _, _, _, _, hx⟩ := h.at_ h0 hs
    simp only [Value.slice.injEq, Option.some.injEq] at e
    obtain ⟨rfl, _⟩ := e
    rw [Addr.add_lit]
    exact (hx j hj).trans hu
theorem term_one (l : List (Bs × Bool)) : ∀ u ∈ termCells l, u.oneCell' = true := by
  intro u hu
  obtain ⟨t, _, ht⟩ := List.mem_flatMap.1 hu
  simp at ht
  rcases ht with rfl | rfl <;> rfl
theorem row_lit2 (w : World) (B : Nat) (x y : Value) (t : TypeId) (hB : B ≤ w.heap.size) : Row (w.alloc (.cells #[x, y] t)) B 2 (.slice (some ⟨w.heap.size, 0, none⟩) 1 1) 1 [x, y] := by
  refine ⟨rfl, fun g hg => (by simp [Value.ownBlock] at hg; subst hg; exact ⟨hB, by simp⟩), _, 1, rfl, Nat.le_refl _, by simp [maxLen], fun _ => ⟨w.heap.size, 0, rfl, hB, by simp, fun j hj => ?_, fun j h1 h2 => by omega⟩⟩
  rw [Nat.zero_add, World.cell?_alloc_new]; simp
theorem map_at {α β : Type} (f : α → β) (l : List α) (k : Nat) (h : k < l.length) : (l.map f)[k]? = some (f l[k]) := by
  rw [List.getElem?_map, List.getElem?_eq_getElem h]; rfl
theorem rows3_alloc {w : World} {B n : Nat} {v1 v2 v3 : Value} {l1 l2 l3 : List Value} (h : Row w B 1 v1 n l1 ∧ Row w B 1 v2 n l2 ∧ Row w B 1 v3 n l3) (o : Obj) : Row (w.alloc o) B 1 v1 n l1 ∧ Row (w.alloc o) B 1 v2 n l2 ∧ Row (w.alloc o) B 1 v3 n l3 :=
  ⟨h.1.alloc o, h.2.1.alloc o, h.2.2.alloc o⟩
theorem bool_nots (d : Bool) : ((!d) == d) = false := by cases d <;> rfl
set_option maxHeartbeats 8000000 in
set_option maxRecDepth 100000 in
theorem walkFnPatternConditions (w : World) (t : ByteArray) (wt : t.size ≤ maxLen) :
    Calls Try.prog 4 #[.string t] w fun e w' => e = .returned (.bool true) ∧ Below w.heap.size w w' := by
  unfold maxLen at wt
  by_cases gt : 2147483647 < t.size
  · go_enter Try.func4, Try.ntmps4
    go_wp2
    go_ret
    exact ⟨rfl, Below.refl _ _⟩
  by_cases gt : 1000000 < t.size
  · go_enter Try.func4, Try.ntmps4
    go_wp2_with (go_at_call 8; refine (tooLong_yes1 _ _ (by omega) (by omega) (by omega)).mono ?_; rintro e w' ⟨rfl, rfl⟩)
    go_ret
    exact ⟨rfl, (Below.refl _ _).alloc (Nat.le_refl _) _⟩
  have HB0 := Lib.hid ((Below.refl w.heap.size w).alloc (Nat.le_refl _) (.cells #[.int .i64 (t.size : Int)] 3))
  obtain ⟨i0, hi, hz0, hz1, hz2⟩ := info_parts infoTerm
  go_enter Try.func4, Try.ntmps4
  go_wp2_with (go_at_call 8; refine (tooLong_no1 _ _ (by omega) (by omega)).mono ?_; rintro e w' ⟨rfl, rfl⟩)
  refine (readPattern_any t _ (by omega)).mono ?_
  rintro e w1 ⟨pat, sv, ok, rfl, h1, h2, h3, h4, h5⟩
  have HB1 := Lib.hid (HB0.out.trans (h5.mono HB0.out.size))
  have HO := Lib.hid h1
  have HR := Lib.hid (h2.mono (B' := w.heap.size) HB0.out.size)
  have HT := Lib.hid h3
  obtain ⟨ao, cap, rfl⟩ := h2.shape
  clear h1 h2 h3 h5 HB0
  go_wp2_with fail
  have HA := Lib.hid (At.new w1 #[.bool pat.disable, .bool pat.visible, .bool pat.all, .slice ao pat.terms.length cap] 25)
  have HA1 := Lib.hid (HB1.out.alloc HB1.out.size (.cells #[.bool pat.disable, .bool pat.visible, .bool pat.all, .slice ao pat.terms.length cap] 25))
  refine (condsOf_any t _ (by omega)).mono ?_
  rintro e w2 ⟨hb2, a1, n1, q1, a2, n2, q2, a3, n3, q3, vis, en, cok, rfl, hC⟩
  have HB2 := Lib.hid (HA1.out.trans (hb2.mono HA1.out.size))
  have HA2 := Lib.hid (HA.out.below hb2)
  have HR2 := Lib.hid ((HR.out.alloc (.cells #[.bool pat.disable, .bool pat.visible, .bool pat.all, .slice ao pat.terms.length cap] 25)).keepAll hb2)
  have HC := Lib.hid hC
  have HB1s := Lib.hid HB1.out.size
  clear hb2 HA HR HB1 HA1 hC
  cases ok with
  | false =>
    go_wp2_with fail
    refine (condsOf_any ⟨#[121]⟩ _ (by decide)).mono ?_
    rintro e w3 ⟨hb3, b1, m1, r1, b2, m2, r2, b3, m3, r3, vis3, en3, cok3, rfl, hC3⟩
    have hok := (hC3 _ isY (by decide)).1
    subst hok
    have HB3 := Lib.hid ((HB2.out.alloc HB2.out.size (.cells #[.slice a1 n1 q1, .slice a2 n2 q2, .slice a3 n3 q3, .bool vis, .bool en] 44)).trans (hb3.mono (by simp; exact Nat.le_succ_of_le HB2.out.size)))
    clear hb3 hC3
    go_wp2
    go_ret
    exact ⟨rfl, HB3.out.alloc HB3.out.size _⟩
  | true =>
    have hro := HO.out rfl
    have hnr := new_read hro
    have hpos : 0 < t.size := by
      rcases Nat.eq_zero_or_pos t.size with h0 | h0
      · have := read_ne hro
        rw [L_nil t h0] at this
        cases this
      · exact h0
    have hC := HC.out _ hnr hpos
    rw [full_conds] at hC
    simp only [List.length_map] at hC
    obtain ⟨rfl, rfl, rfl, hl, rfl, rfl, rfl, r1, r2, r3⟩ := hC
    have HF : Hid (∀ x ∈ fullT pat.all pat.terms, isBitsL x.1) := full_bits HT.out
    have HFL : Hid (fullT pat.all pat.terms = if pat.all then ([121], true) :: pat.terms else pat.terms) := rfl
    generalize fullT pat.all pat.terms = T at *
    obtain ⟨p0, p1, p2, p3⟩ := HA2.out.four
    have pl := HA2.out.1
    have HM : Hid (Row w2 w.heap.size 1 (.slice a1 T.length q1) T.length (maskC (T.map condOf)) ∧ Row w2 w.heap.size 1 (.slice a2 T.length q2) T.length (bitC (T.map condOf)) ∧ Row w2 w.heap.size 1 (.slice a3 T.length q3) T.length (resC (T.map condOf))) := ⟨r1.mono (by have := HB1s.out; simp; omega), r2.mono (by have := HB1s.out; simp; omega), r3.mono (by have := HB1s.out; simp; omega)⟩
    clear HC r1 r2 r3 hnr
    go_upto_if 41 with (fail)
    have HAC := Lib.hid (At.new w2 #[.slice a1 T.length q1, .slice a2 T.length q2, .slice a3 T.length q3, .bool pat.visible, .bool (!pat.disable)] 44)
    have HAP := Lib.hid (HA2.out.alloc (.cells #[.slice a1 T.length q1, .slice a2 T.length q2, .slice a3 T.length q3, .bool pat.visible, .bool (!pat.disable)] 44))
    have HB3 := Lib.hid (HB2.out.alloc HB2.out.size (.cells #[.slice a1 T.length q1, .slice a2 T.length q2, .slice a3 T.length q3, .bool pat.visible, .bool (!pat.disable)] 44))
    have HR3 := Lib.hid (HR2.out.alloc (.cells #[.slice a1 T.length q1, .slice a2 T.length q2, .slice a3 T.length q3, .bool pat.visible, .bool (!pat.disable)] 44))
    have HM3 := Lib.hid (rows3_alloc HM.out (.cells #[.slice a1 T.length q1, .slice a2 T.length q2, .slice a3 T.length q3, .bool pat.visible, .bool (!pat.disable)] 44))
    clear HM HR2 HA2 p0 p1 p2 p3 pl HB2
    have pl2 := HAP.out.1
    have pl3 := HAC.out.1
    generalize hW : w2.alloc (.cells #[.slice a1 T.length q1, .slice a2 T.length q2, .slice a3 T.length q3, .bool pat.visible, .bool (!pat.disable)] 44) = W3 at *
    clear hW
    generalize w2.heap.size = g5 at *
    generalize w1.heap.size = g3 at *
    go_cut [9] (fun v9 wc => ∃ a9 q9, v9 = .slice a9 T.length q9 ∧ Hid (Row wc w.heap.size 2 (.slice a9 T.length q9) T.length (termCells T)) ∧ Hid (Below W3.heap.size W3 wc))
    case first =>
      obtain ⟨p0, p1, p2, p3⟩ := HAP.out.four
      cases hall : pat.all with
      | false =>
        rw [hall] at HFL
        have e : T = pat.terms := HFL.out
        subst e
        go_wp2
        go_meet
        case rel => exact ⟨_, _, rfl, HR3.out, Below.refl _ _⟩
      | true =>
        rw [hall] at HFL
        have e : T = ([121], true) :: pat.terms := HFL.out
        have HE := Lib.hid e
        clear e HFL
        have HL1 := Lib.hid (row_lit2 W3 w.heap.size (.string ⟨#[121]⟩) (.bool true) 48 HB3.out.size)
        have HSRC := Lib.hid (src_rowN (P := Try.prog) (tx := 23) Try.underlying23 (by omega) (HR3.out.alloc (.cells #[.string ⟨#[121]⟩, .bool true] 48)) (term_one pat.terms))
        have HLN : Hid (1 + pat.terms.length = T.length ∧ [Value.string ⟨#[121]⟩, .bool true] ++ termCells pat.terms = termCells T) := by
          rw [HE.out]
          exact ⟨by rw [List.length_cons]; omega, rfl⟩
        have m1 : 1 + pat.terms.length ≤ maxLen := by have := HLN.out.1; unfold maxLen; omega
        have m2 : (1 + pat.terms.length) * 24 ≤ 140737488355328 := by have := HLN.out.1; omega
        have m3 : w.heap.size ≤ (W3.alloc (.cells #[.string ⟨#[121]⟩, .bool true] 48)).heap.size := by have := HB3.out.size; simp; omega
        go_wp2_with (at_builtin; refine wpList_append_row _ rfl (.tmp 43) (.tmp 44) 23 23 rfl w.heap.size 48 i0 (.agg #[.string ⟨#[]⟩, .bool false]) 2 24 Try.underlying23 hi hz0 hz1 hz2 rfl _ _ _ HL1.out rfl _ _ _ HSRC.out rfl m1 m2 m3 ?_; intro v9 w9 y1 y2 y3; rw [HLN.out.1, HLN.out.2] at y1; obtain ⟨a9, q9, rfl⟩ := y1.shape; have Y1 := Lib.hid y1; have Y2 := Lib.hid (((Below.refl W3.heap.size W3).alloc (Nat.le_refl _) (.cells #[.string ⟨#[121]⟩, .bool true] 48)).grown y2 (by simp) (fun g hg => by simp [Value.ownBlock] at hg; omega)); clear y1 y2 y3)
        go_meet
        case rel => exact ⟨_, _, rfl, Y1.out, Y2.out⟩
    case rest =>
    clear HR3 HFL
    obtain ⟨a9, q9, rfl, HRT, HBC⟩ := hcut
    have HAP4 := Lib.hid (HAP.out.below HBC.out)
    have HAC4 := Lib.hid (HAC.out.below HBC.out)
    have HM4 : Hid (Row wc w.heap.size 1 (.slice a1 T.length q1) T.length (maskC (T.map condOf)) ∧ Row wc w.heap.size 1 (.slice a2 T.length q2) T.length (bitC (T.map condOf)) ∧ Row wc w.heap.size 1 (.slice a3 T.length q3) T.length (resC (T.map condOf))) := ⟨HM3.out.1.keepAll HBC.out, HM3.out.2.1.keepAll HBC.out, HM3.out.2.2.keepAll HBC.out⟩
    have HB4 := Lib.hid (HB3.out.trans (HBC.out.mono HB3.out.size))
    clear HAP HAC HM3 HB3 HBC pl2 pl3
    obtain ⟨p0, p1, p2, p3⟩ := HAP4.out.four
    obtain ⟨v0, v1, v2, v3, v4⟩ := HAC4.out.five
    have pl2 := HAP4.out.1
    have pl3 := HAC4.out.1
    have hen := bool_nots pat.disable
    have hvi : (pat.visible != pat.visible) = false := by simp
    go_wp2_with fail
    clear p0 p1 p2 p3 v0 v1 v2 v3 v4 hen hvi HAP4
    go_loopw [88] (fun iv wr => ∃ k : Nat, iv = .int .i64 (k : Int) ∧ k ≤ T.length ∧ Hid (Below wc.heap.size wc wr)) (fun iv _ => T.length - (intOf iv).toNat)
    case atStart => exact ⟨0, rfl, Nat.zero_le _, Below.refl _ _⟩
    case round =>
      obtain ⟨k, rfl, hk, HBR⟩ := hrel
      by_cases hlt : k < T.length
      · obtain ⟨gt, ot, ct, ev, _, hgt, _, _, hxt⟩ := HRT.out.at_ (by omega) (by omega)
        simp only [Value.slice.injEq] at ev
        obtain ⟨rfl, _, rfl⟩ := ev
        obtain ⟨g1, o1, c1, ev, _, hg1, _, _, hx1⟩ := HM4.out.1.at_ (by omega) (by omega)
        simp only [Value.slice.injEq] at ev
        obtain ⟨rfl, _, rfl⟩ := ev
        obtain ⟨g2, o2, c2, ev, _, hg2, _, _, hx2⟩ := HM4.out.2.1.at_ (by omega) (by omega)
        simp only [Value.slice.injEq] at ev
        obtain ⟨rfl, _, rfl⟩ := ev
        obtain ⟨g4, o4, c4, ev, _, hg4, _, _, hx4⟩ := HM4.out.2.2.at_ (by omega) (by omega)
        simp only [Value.slice.injEq] at ev
        obtain ⟨rfl, _, rfl⟩ := ev
        have hup : ∀ g, g < wc.heap.size → g < wr.heap.size ∧ ∀ j, wr.cell? ⟨g, j, none⟩ = wc.cell? ⟨g, j, none⟩ := fun g hg => ⟨Nat.lt_of_lt_of_le hg HBR.out.size, fun j => HBR.out.cell (p := ⟨g, j, none⟩) hg⟩
        obtain ⟨e1, e2⟩ := termCells_at T k hlt
        have x1 : wr.cell? ⟨gt, ot + k * 2, none⟩ = some (.string (mkB T[k].1)) := ((hup gt hgt).2 _).trans ((hxt _ (by omega)).trans e1)
        have x2 : wr.cell? ⟨gt, ot + k * 2 + 1, none⟩ = some (.bool T[k].2) := ((hup gt hgt).2 _).trans ((hxt (k * 2 + 1) (by omega)).trans e2)
        have y1 : wr.cell? ⟨g1, o1 + k, none⟩ = some (.int .u64 (condOf T[k]).mask) := ((hup g1 hg1).2 _).trans ((hx1 k (by omega)).trans (by unfold maskC; rw [List.map_map]; exact map_at _ T k hlt))
        have y2 : wr.cell? ⟨g2, o2 + k, none⟩ = some (.int .u64 (condOf T[k]).bits) := ((hup g2 hg2).2 _).trans ((hx2 k (by omega)).trans (by unfold bitC; rw [List.map_map]; exact map_at _ T k hlt))
        have y4 : wr.cell? ⟨g4, o4 + k, none⟩ = some (.bool (condOf T[k]).res) := ((hup g4 hg4).2 _).trans ((hx4 k (by omega)).trans (by unfold resC; rw [List.map_map]; exact map_at _ T k hlt))
        have l0 := (hup gt hgt).1
        have l1 := (hup g1 hg1).1
        have l2 := (hup g2 hg2).1
        have l4 := (hup g4 hg4).1
        have HA5 := Lib.hid (HAC4.out.below HBR.out)
        have hFk := HF.out T[k] (List.getElem_mem hlt)
        clear hxt hx1 hx2 hx4 hup e1 e2 hgt hg1 hg2 hg4
        generalize T[k] = tk at *
        obtain ⟨tb, ta⟩ := tk
        have hres : (condOf (tb, ta)).res = ta := by unfold condOf; split <;> rfl
        rw [hres] at y4
        have HMK := fun w => maskOf_any (mkB tb) ta w (by rw [L_mkB]; exact hFk)
        rw [L_mkB] at HMK
        dsimp only at x1 x2
        generalize (condOf (tb, ta)).mask = mk at *
        generalize (condOf (tb, ta)).bits = bk at *
        obtain ⟨v0, v1, v2, v3, v4⟩ := HA5.out.five
        have pl5 := HA5.out.1
        have HK2 := Lib.hid HMK
        clear HMK hres hFk pl2 pl3 v3 v4
        go_wp2_with fail
        refine (HK2.out _).mono ?_
        rintro e w' ⟨rfl, rfl⟩
        go_wp2_with fail
        go_quiet (fail)
        go_wp2
        go_roundw
        case rel => exact ⟨k + 1, by go_num, by omega, below_drewN (HBR.out.alloc HBR.out.size _) _⟩
        case measure => simp [intOf]; omega
      · go_wp2
        go_ret
        exact ⟨rfl, HB4.out.trans (HBR.out.mono HB4.out.size)⟩
end Go.Proofs.Ytnjdckhaecdldaa
