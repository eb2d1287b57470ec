/-
  The contract of spec.ReadPattern. For every text of at most 4294967290 bytes.
-/
import Derived.Test.YtnjdckhaecdldaaTerms
set_option linter.unusedVariables false
namespace Go.Proofs.Ytnjdckhaecdldaa
open Go.RowKit Go.PlainAid Go.Lib

theorem terms_y {add : Bool} {s : Bs} {ts : List (Bs × Bool)} (h : Terms add s ts) (hs : s = [121]) : ts = [([121], add)] := by
  cases h with
  | last hb => rw [hs]
  | more hb hc ha hr =>
    exfalso
    have := isBits_ne hb
    have hl := congrArg List.length hs
    simp at hl
    rename_i b _ _ _
    cases b with
    | nil => exact this rfl
    | cons x r => simp at hl; omega
theorem readTerms_y {all : Bool} {ts : List (Bs × Bool)} (h : ReadTerms [121] all ts) : all = false ∧ ts = [([121], true)] := by
  rcases h with ⟨r, h, _⟩ | ⟨r, h, _⟩ | ⟨h, h2⟩
  · cases h
  · cases h
  · exact ⟨h, terms_y h2 rfl⟩
def ReadPost (s : ByteArray) (w : World) (e : Ending) (w' : World) : Prop :=
  ∃ pat sv ok, e = .returned (.tuple #[.agg #[.bool pat.disable, .bool pat.visible, .bool pat.all, sv], .bool ok]) ∧ (ok = true → ReadOk (L s) pat) ∧ Row w' w.heap.size 2 sv pat.terms.length (termCells pat.terms) ∧ (∀ t ∈ pat.terms, isBitsL t.1) ∧ pat.terms.length ≤ s.size + 2 ∧ Below w.heap.size w w'
def ReadBody2 (s : Bs) (d all : Bool) (ts : List (Bs × Bool)) : Prop := (∃ r, s = 33 :: r ∧ d = true ∧ ReadTerms r all ts) ∨ (s.head? ≠ some 33 ∧ d = false ∧ ReadTerms s all ts)
theorem body_n {d all : Bool} {ts : List (Bs × Bool)} (h : ReadBody2 [33, 121] d all ts) : ReadBody [110] d all ts := by
  rcases h with ⟨r, h, hd, ht⟩ | ⟨h, _⟩
  · cases h
    obtain ⟨h1, h2⟩ := readTerms_y ht
    exact .inl ⟨rfl, hd, h1, h2⟩
  · exact absurd rfl h
theorem body_2 {s : Bs} {d all : Bool} {ts : List (Bs × Bool)} (h : ReadBody2 s d all ts) : ReadBody s d all ts := by
  rcases h with h | ⟨_, h⟩
  · exact .inr (.inl h)
  · exact .inr (.inr h)
/-- the pattern so far -/
def RD (s : ByteArray) (w : World) (rem : ByteArray) (d v : Bool) (F : Bool → List (Bs × Bool) → Prop) (wc : World) : Prop :=
  MatAt wc (w.heap.size + 1) d v false (.slice none 0 0) ∧ Below (w.heap.size + 1) (w.alloc (.cells #[.bool false, .bool false, .bool false, .slice none 0 0] 25)) wc ∧ (∀ all ts, F all ts → ReadOk (L s) ⟨d, v, all, ts⟩)
theorem res4 (w : World) (t : TypeId) (w1 : World) (hb : Below (w.heap.size + 1) (w.alloc (.cells #[.bool false, .bool false, .bool false, .slice none 0 0] t)) w1) :
    w1.cell? ⟨w.heap.size, 0, none⟩ = some (.bool false) ∧ w1.cell? ⟨w.heap.size, 1, none⟩ = some (.bool false) ∧ w1.cell? ⟨w.heap.size, 2, none⟩ = some (.bool false) ∧ w1.cell? ⟨w.heap.size, 3, none⟩ = some (.slice none 0 0) ∧
    w1.frozen? ⟨w.heap.size, 0, none⟩ = false ∧ w1.frozen? ⟨w.heap.size, 1, none⟩ = false ∧ w1.frozen? ⟨w.heap.size, 2, none⟩ = false ∧ w1.frozen? ⟨w.heap.size, 3, none⟩ = false := by
  have c : ∀ k, w1.cell? ⟨w.heap.size, k, none⟩ = _ := fun k => hb.cell (p := ⟨w.heap.size, k, none⟩) (Nat.lt_succ_self _)
  have f : ∀ k, w1.frozen? ⟨w.heap.size, k, none⟩ = _ := fun k => hb.frozen (p := ⟨w.heap.size, k, none⟩) (Nat.lt_succ_self _)
  refine ⟨?_, ?_, ?_, ?_, ?_, ?_, ?_, ?_⟩
  iterate 4 (rw [c, World.cell?_alloc_new]; rfl)
  all_goals rw [f, World.frozen?_alloc_new]
set_option maxHeartbeats 4000000 in
set_option maxRecDepth 100000 in
theorem readPattern_any (s : ByteArray) (w : World) (hs : s.size ≤ 4294967290) : Calls Try.prog 9 #[.string s] w (ReadPost s w) := by
  have hb := get_bt s
  go_enter Try.func9, Try.ntmps9
  go_upto_region 2 with (fail)
  have HRD : Hid (RD s w s false false (fun all ts => ReadBody (L s) false all ts) ((w.alloc (.cells #[.bool false, .bool false, .bool false, .slice none 0 0] 25)).alloc (.cells #[.bool false, .bool false, .bool false, .slice none 0 0] 25))) := by
    refine ⟨?_, (Below.refl _ _).alloc (by simp) _, fun all ts h => .inr ⟨rfl, h⟩⟩
    have := mat_new (w.alloc (.cells #[.bool false, .bool false, .bool false, .slice none 0 0] 25)) 25
    rw [show (w.alloc (.cells #[.bool false, .bool false, .bool false, .slice none 0 0] 25)).heap.size = w.heap.size + 1 by simp] at this
    exact this
  generalize ((w.alloc (.cells #[.bool false, .bool false, .bool false, .slice none 0 0] 25)).alloc (.cells #[.bool false, .bool false, .bool false, .slice none 0 0] 25)) = W at *
  go_upto_region 2 with (fail)
  go_cut [13] (fun bv wc => ∃ sg, bv = .bool sg ∧ W = wc ∧ Hid (sg = (decide (0 < s.size) && (bt s 0 == 118))))
  case first =>
    by_cases h0 : 0 < s.size
    · have he := isEmpty_no s h0
      go_wp2
      go_meet
      case rel => exact ⟨_, rfl, rfl, by show _ = _; simp [h0]⟩
    · have he := isEmpty_yes s (by omega)
      go_wp2
      go_meet
      case rel => exact ⟨_, rfl, rfl, by show _ = _; simp [h0]⟩
  case rest =>
  obtain ⟨sg, rfl, rfl, HSG⟩ := hcut
  go_upto_if 13 with (fail)
  go_cut [0] (fun rv wc => ∃ rem v, rv = .string rem ∧ rem.size ≤ s.size ∧ Hid (∀ d, MatAt wc (w.heap.size + 1) false v false (.slice none 0 0) ∧ Below (w.heap.size + 1) (w.alloc (.cells #[.bool false, .bool false, .bool false, .slice none 0 0] 25)) wc ∧ (∀ all ts, ReadBody (L rem) d all ts → ReadOk (L s) ⟨d, v, all, ts⟩)))
  case first =>
    obtain ⟨t1, t2, t3⟩ := HRD.out
    have HM := Lib.hid t1
    have HB := Lib.hid t2
    obtain ⟨mf, m0, m1, m2, m3⟩ := t1
    have f1 := mf 1 (by omega)
    clear mf t2 t3 HRD
    cases sg with
    | false =>
      go_wp2
      go_meet
      case rel => exact ⟨s, false, rfl, Nat.le_refl _, fun d => ⟨HM.out, HB.out, fun all ts h => .inr ⟨rfl, h⟩⟩⟩
    | true =>
      obtain ⟨h0, h118⟩ : 0 < s.size ∧ bt s 0 = 118 := by have := HSG.out; simp at this; exact this
      have HH : Hid (L s = 118 :: L (s.extract 1 s.size)) := by
        obtain ⟨c, h1, h2⟩ := L_cons s h0
        have : c = 118 := (u8_is (n := 118) (by omega)).1 (by rw [← h2, h118]; rfl)
        show _ = _
        rw [h1, this]
      have hxs : (s.extract 1 s.size).size = s.size - 1 := by rw [ByteArray.size_extract]; omega
      clear h118
      go_wp2
      go_meet
      case rel => exact ⟨s.extract 1 s.size, true, rfl, by omega, fun d => ⟨HM.out.set1 _, HB.out.setCell (p := ⟨w.heap.size + 1, 1, none⟩) (Nat.le_refl _) _, fun all ts h => .inl ⟨_, HH.out, rfl, h⟩⟩⟩
  case rest =>
  clear HRD HSG hb
  obtain ⟨rem, v, rfl, hrs, HR⟩ := hcut
  go_upto_if 18 with (fail)
  obtain ⟨W, hW⟩ : ∃ W : World, W = wc := ⟨_, rfl⟩
  subst hW
  go_cut [0] (fun rv wc => ∃ rem2, rv = .string rem2 ∧ rem2.size ≤ s.size + 2 ∧ W = wc ∧ Hid (∀ d all ts, ReadBody2 (L rem2) d all ts → ReadOk (L s) ⟨d, v, all, ts⟩))
  case first =>
    cases hn : (rem.toList == (⟨#[110]⟩ : ByteArray).toList) with
    | true =>
      have HE : Hid (L rem = [110]) := by show _ = _; rw [beq_str.1 hn]; rfl
      rw [show (⟨#[110]⟩ : ByteArray).toList = [110] by rw [toList_L]; rfl] at hn
      rw [hn]
      go_wp2
      go_meet
      case rel => exact ⟨⟨#[33, 121]⟩, rfl, (show 2 ≤ s.size + 2 by omega), rfl, fun d all ts h => (HR.out d).2.2 all ts (by rw [HE.out]; exact body_n h)⟩
    | false =>
      rw [show (⟨#[110]⟩ : ByteArray).toList = [110] by rw [toList_L]; rfl] at hn
      rw [hn]
      go_wp2
      go_meet
      case rel => exact ⟨rem, rfl, by omega, rfl, fun d all ts h => (HR.out d).2.2 all ts (body_2 h)⟩
  case rest =>
  have HM := Lib.hid (HR.out false).1
  have HB := Lib.hid (HR.out false).2.1
  clear HR hrs
  obtain ⟨rem, rfl, hrs, rfl, HR⟩ := hcut
  have hb := get_bt rem
  go_upto_region 7 with (fail)
  go_cut [25] (fun bv wc => ∃ sg, bv = .bool sg ∧ W = wc ∧ Hid (sg = (decide (0 < rem.size) && (bt rem 0 == 33))))
  case first =>
    by_cases h0 : 0 < rem.size
    · have he := isEmpty_no rem h0
      go_wp2
      go_meet
      case rel => exact ⟨_, rfl, rfl, by show _ = _; simp [h0]⟩
    · have he := isEmpty_yes rem (by omega)
      go_wp2
      go_meet
      case rel => exact ⟨_, rfl, rfl, by show _ = _; simp [h0]⟩
  case rest =>
  obtain ⟨sg, rfl, rfl, HSG⟩ := hcut
  go_upto_if 25 with (fail)
  go_cut [0] (fun rv wc => ∃ rem2 d, rv = .string rem2 ∧ rem2.size ≤ s.size + 2 ∧ Hid (MatAt wc (w.heap.size + 1) d v false (.slice none 0 0)) ∧ Hid (Below (w.heap.size + 1) (w.alloc (.cells #[.bool false, .bool false, .bool false, .slice none 0 0] 25)) wc) ∧ Hid (∀ all ts, ReadTerms (L rem2) all ts → ReadOk (L s) ⟨d, v, all, ts⟩))
  case first =>
    obtain ⟨mf, m0, m1, m2, m3⟩ := HM.out
    have f0 := mf 0 (by omega)
    clear mf
    cases sg with
    | false =>
      have HNE : Hid ((L rem).head? ≠ some 33) := by
        intro h
        have h2 := HSG.out
        have hl := L_len rem
        cases hlr : L rem with
        | nil => rw [hlr] at h; cases h
        | cons x r =>
          rw [hlr] at h hl
          simp at h hl
          subst h
          have h0 : 0 < rem.size := by omega
          obtain ⟨c, h3, h4⟩ := L_cons rem h0
          rw [hlr] at h3
          simp at h3
          rw [h4, ← h3.1] at h2
          simp [h0] at h2
      go_wp2
      go_meet
      case rel => exact ⟨rem, false, rfl, hrs, HM.out, HB.out, fun all ts h => HR.out false all ts (.inr ⟨HNE.out, rfl, h⟩)⟩
    | true =>
      obtain ⟨h0, h33⟩ : 0 < rem.size ∧ bt rem 0 = 33 := by have := HSG.out; simp at this; exact this
      have HH : Hid (L rem = 33 :: L (rem.extract 1 rem.size)) := by
        obtain ⟨c, h1, h2⟩ := L_cons rem h0
        have : c = 33 := (u8_is (n := 33) (by omega)).1 (by rw [← h2, h33]; rfl)
        show _ = _
        rw [h1, this]
      have hxs : (rem.extract 1 rem.size).size = rem.size - 1 := by rw [ByteArray.size_extract]; omega
      clear h33
      go_wp2
      go_meet
      case rel => exact ⟨rem.extract 1 rem.size, true, rfl, by omega, HM.out.set0 _, HB.out.setCell (p := ⟨w.heap.size + 1, 0, none⟩) (Nat.le_refl _) _, fun all ts h => HR.out true all ts (.inl ⟨_, HH.out, rfl, h⟩)⟩
  case rest =>
  clear HR HSG hb hrs HM HB
  obtain ⟨rem, d, rfl, hrs, HM, HB, HR⟩ := hcut
  go_wp2_with fail
  refine (terms_any rem _ (w.heap.size + 1) d v (by omega) HM.out).mono ?_
  rintro e w3 ⟨ok, all, ts, sv, rfl, t1, t2, t3, t4, t5, t6⟩
  have HT := Lib.hid (show (ok = true → ReadOk (L s) ⟨d, v, all, ts⟩) ∧ (∀ t ∈ ts, isBitsL t.1) ∧ ts.length ≤ rem.size from ⟨fun h => HR.out _ _ (t3 h), t4, t5⟩)
  have HB3 := Lib.hid (HB.out.trans t6)
  have HROW := Lib.hid t2
  obtain ⟨ao, cap, rfl⟩ := t2.shape
  obtain ⟨c0, c1, c2, c3, f0, f1, f2, f3⟩ := res4 w 25 w3 HB3.out
  obtain ⟨_, m0, m1, m2, m3⟩ := t1
  clear t2 t3 t4 t5 t6 HM HB HR
  go_wp2
  have hne : (Value.slice ao ts.length cap).ownBlock ≠ some w.heap.size := fun e => by have := HROW.out.blk _ e; omega
  refine bodyPost_ret (v := .tuple #[.agg #[.bool d, .bool v, .bool all, .slice ao ts.length cap], .bool ok]) (by simp [results, Try.results9, go_sem, c0, c1, c2, c3]) rfl ⟨⟨d, v, all, ts⟩, _, ok, rfl, HT.out.1, ?_, HT.out.2.1, ?_, ?_⟩
  · exact ((((HROW.out.setCell (p := ⟨w.heap.size, 0, none⟩) hne _).setCell (p := ⟨w.heap.size, 1, none⟩) hne _).setCell (p := ⟨w.heap.size, 2, none⟩) hne _).setCell (p := ⟨w.heap.size, 3, none⟩) hne _).mono (by omega)
  · have := HT.out.2.2; show ts.length ≤ _; omega
  · exact ((((((Below.refl w.heap.size w).alloc (Nat.le_refl _) _).trans (HB3.out.mono (by omega))).setCell (p := ⟨w.heap.size, 0, none⟩) (Nat.le_refl _) _).setCell (p := ⟨w.heap.size, 1, none⟩) (Nat.le_refl _) _).setCell (p := ⟨w.heap.size, 2, none⟩) (Nat.le_refl _) _).setCell (p := ⟨w.heap.size, 3, none⟩) (Nat.le_refl _) _
end Go.Proofs.Ytnjdckhaecdldaa
