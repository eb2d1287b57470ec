/-
  The contract of sort.Stable over a row of edits: it is put in order by moving its places, and stays as it is where it is in order. For every row of at most 4294967296 edits.
-/
import Derived.Test.YtboiigeomgdkjaaSymAny
set_option linter.unusedVariables false
set_option maxHeartbeats 4000000
set_option maxRecDepth 100000
namespace Go.Proofs.Ytboiigeomgdkjaa
open Go.RowKit Go.PlainAid Go.Lib

/-- what lies in the block while it is sorted in runs -/
def SB (w : World) (b o n : Nat) (f g : Nat → St) (wr : World) : Prop := Q wr b o n g ∧ Mv 0 n f g ∧ (Srt ltE 0 n f → g = f) ∧ GB w wr b
theorem SB.start {w : World} {b o n : Nat} {f : Nat → St} (h : Q w b o n f) : SB w b o n f f w := ⟨h, Mv.refl _ _ _, fun _ => rfl, grow_refl _ _⟩
theorem SB.step {w wr w2 : World} {b o n a e : Nat} {f g g' : Nat → St} (h : SB w b o n f g wr) (he : e ≤ n) (hq : Q w2 b o n g') (hd : Sd ltE a e g g') (hg : GB wr w2 b) : SB w b o n f g' w2 :=
  ⟨hq, h.2.1.trans (hd.1.mono (Nat.zero_le _) he), fun hs => by
    have e1 := h.2.2.1 hs
    rw [hd.2.2 (by rw [e1]; exact hs.sub (Nat.zero_le _) he), e1], grow_trans h.2.2.2 hg⟩
theorem SB.done {w wr : World} {b o n : Nat} {f g : Nat → St} (h : SB w b o n f g wr) (hs : Srt ltE 0 n g) : SM w b o n 0 n f (.returned (.tuple #[])) wr := ⟨rfl, g, h.1, ⟨h.2.1, hs, h.2.2.1⟩, h.2.2.2⟩
theorem Pre.sd {g g' : Nat → St} {bs n a : Nat} (h : Pre ltE bs n a g) (hl : a + bs ≤ n) (hd : Sd ltE a (a + bs) g g') : Pre ltE bs n (a + bs) g' :=
  h.step (fun k hk => hd.1.out (.inl hk)) (hd.2.1.sub (Nat.le_refl _) (by omega))
theorem Pre.sd_end {g g' : Nat → St} {bs n a : Nat} (h : Pre ltE bs n a g) (ha : a ≤ n) (hn : n < a + bs) (hd : Sd ltE a n g g') : Runs ltE g' bs n 0 :=
  h.end_ (fun k hk => hd.1.out (.inl hk)) ha hn hd.2.1
theorem Runs.two {g : Nat → St} {bs n a : Nat} (h : Runs ltE g bs n a) (hl : a + 2 * bs ≤ n) : Srt ltE a (a + bs) g ∧ Srt ltE (a + bs) (a + 2 * bs) g :=
  ⟨h.first.sub (Nat.le_refl _) (by omega), h.next.first.sub (Nat.le_refl _) (by omega)⟩
theorem Runs.after {g g' : Nat → St} {bs n a : Nat} (h : Runs ltE g bs n a) (hd : Sd ltE a (a + 2 * bs) g g') : Runs ltE g' bs n (a + 2 * bs) := by
  have := h.next.next
  rw [show a + bs + bs = a + 2 * bs by omega] at this
  exact this.congr fun k hk => hd.1.out (.inr hk)

theorem stable_any (w : World) (b o n c : Nat) (f : Nat → St) (h0 : 0 < n) (hn : n ≤ 4294967296) (h : Q w b o n f) :
    Calls Try.prog 37 #[.iface 54 (.slice (some ⟨b, o, none⟩) n c), .int .i64 n] w (SM w b o n 0 n f) := by
  have HQ := Lib.hid h
  clear h
  go_enter Try.func37, Try.ntmps37
  go_wp2
  go_loopw [5, 6] (fun av bv wr => ∃ (a : Nat) (g : Nat → St), av = .int .i64 a ∧ bv = .int .i64 ((a : Int) + 20) ∧ a ≤ n ∧ Hid (SB w b o n f g wr ∧ Pre ltE 20 n a g)) (fun av _ _ => n - (intOf av).toNat)
  case atStart => exact ⟨0, f, rfl, rfl, Nat.zero_le _, SB.start HQ.out, Pre.zero _ _ _ _⟩
  case round =>
    clear HQ
    obtain ⟨a, g, rfl, rfl, han, HG⟩ := hrel
    by_cases hlt : a + 20 ≤ n
    · have hin := ins_any wr b o n c g a (a + 20) (by omega) hlt hn HG.out.1.1
      rw [show ((a + 20 : Nat) : Int) = (a : Int) + 20 by omega] at hin
      go_wp2_with fail
      refine hin.mono ?_
      clear hin
      rintro e w' hsp
      obtain ⟨rfl, g', hq, hd, hg⟩ := hsp.sm
      have HB := Lib.hid (HG.out.1.step hlt hq hd hg)
      have HP := Lib.hid (HG.out.2.sd hlt hd)
      clear hsp hq hd hg
      go_wp2_with fail
      go_roundw
      case rel => exact ⟨a + 20, g', i64e (by omega), i64e (by omega), hlt, HB.out, HP.out⟩
      case measure => simp [intOf]; omega
    · have hin := ins_any wr b o n c g a n han (Nat.le_refl _) hn HG.out.1.1
      have hlt' : ¬ ((a : Int) + 20 ≤ n) := by omega
      go_wp2_with fail
      refine hin.mono ?_
      clear hin
      rintro e w0 hsp
      obtain ⟨rfl, g', hq, hd, hg⟩ := hsp.sm
      have HB := Lib.hid (HG.out.1.step (Nat.le_refl _) hq hd hg)
      have HP := Lib.hid (HG.out.2.sd_end han (by omega) hd)
      clear hsp hq hd hg HG
      go_wp2_with fail
      go_loopw [4] (fun sv wr => ∃ (bs : Nat) (g : Nat → St), sv = .int .i64 bs ∧ 20 ≤ bs ∧ bs ≤ 2 * n + 20 ∧ Hid (SB w b o n f g wr ∧ Runs ltE g bs n 0)) (fun sv _ => n - (intOf sv).toNat)
      case atStart => exact ⟨20, g', rfl, Nat.le_refl _, by omega, HB.out, HP.out⟩
      case round =>
        clear HB HP
        obtain ⟨bs, g, rfl, hb1, hb2, HG⟩ := hrel
        obtain ⟨wo, rfl⟩ : ∃ wo : World, wo = wr := ⟨_, rfl⟩
        by_cases hbs : bs < n
        · go_wp2_with fail
          go_loopw [5, 6] (fun av bv wr => ∃ (a : Nat) (g : Nat → St), av = .int .i64 a ∧ bv = .int .i64 ((a : Int) + 2 * bs) ∧ a ≤ n ∧ Hid (SB w b o n f g wr ∧ Pre ltE (2 * bs) n a g ∧ Runs ltE g bs n a)) (fun av _ _ => n - (intOf av).toNat)
          case atStart => exact ⟨0, g, rfl, i64e (by omega), Nat.zero_le _, HG.out.1, Pre.zero _ _ _ _, HG.out.2⟩
          case round =>
            clear HG
            obtain ⟨a, g, rfl, rfl, han, HG⟩ := hrel
            by_cases hlt : a + 2 * bs ≤ n
            · have hsy := sym_any b o n c hn _ wr g a (a + bs) (a + 2 * bs) (Nat.le_refl _) (by omega) (by omega) hlt (HG.out.2.2.two hlt).1 (HG.out.2.2.two hlt).2 HG.out.1.1
              rw [show ((a + 2 * bs : Nat) : Int) = (a : Int) + 2 * bs by omega, show ((a + bs : Nat) : Int) = (a : Int) + bs by omega] at hsy
              have hlt' : ((a : Int) + 2 * bs ≤ n) := by omega
              go_wp2_with fail
              refine hsy.mono ?_
              clear hsy
              rintro e w' ⟨rfl, g', hq, hd, hg⟩
              have HB := Lib.hid (HG.out.1.step hlt hq hd hg)
              have HP := Lib.hid (HG.out.2.1.sd hlt hd)
              have HR := Lib.hid (HG.out.2.2.after hd)
              clear hq hd hg
              go_wp2_with fail
              go_roundw
              case rel => exact ⟨a + 2 * bs, g', i64e (by omega), i64e (by omega), hlt, HB.out, HP.out, HR.out⟩
              case measure => simp [intOf]; omega
            · have hlt' : ¬ ((a : Int) + 2 * bs ≤ n) := by omega
              by_cases hm : a + bs < n
              · have hsy := sym_any b o n c hn _ wr g a (a + bs) n (Nat.le_refl _) (by omega) hm (Nat.le_refl _) (HG.out.2.2.first.sub (Nat.le_refl _) (by omega)) (HG.out.2.2.next.first.sub (Nat.le_refl _) (by omega)) HG.out.1.1
                rw [show ((a + bs : Nat) : Int) = (a : Int) + bs by omega] at hsy
                have hm' : ((a : Int) + bs < n) := by omega
                go_wp2_with fail
                refine hsy.mono ?_
                clear hsy
                rintro e w' ⟨rfl, g', hq, hd, hg⟩
                have HB := Lib.hid (HG.out.1.step (Nat.le_refl _) hq hd hg)
                have HP := Lib.hid (HG.out.2.1.sd_end han (by omega) hd)
                clear hq hd hg
                go_wp2_with fail
                go_roundw
                case rel => exact ⟨2 * bs, g', i64e (by omega), by omega, by omega, HB.out, HP.out⟩
                case measure => simp [intOf]; omega
              · have hm' : ¬ ((a : Int) + bs < n) := by omega
                have hd := Sd.none (HG.out.2.2.first.sub (Nat.le_refl _) (show n ≤ min (a + bs) n by omega))
                have HP := Lib.hid (HG.out.2.1.sd_end han (by omega) hd)
                clear hd
                go_wp2_with fail
                go_roundw
                case rel => exact ⟨2 * bs, g, i64e (by omega), by omega, by omega, HG.out.1, HP.out⟩
                case measure => simp [intOf]; omega
        · go_wp2_with fail
          go_end0
          exact HG.out.1.done (HG.out.2.all (by omega))
/-- sort.Stable -/
theorem sortStable_any (w : World) (b o n c : Nat) (f : Nat → St) (h0 : 0 < n) (hn : n ≤ 4294967296) (h : Q w b o n f) :
    Calls Try.prog 36 #[.iface 54 (.slice (some ⟨b, o, none⟩) n c)] w (SM w b o n 0 n f) := by
  have mN := reach_len (some ⟨b, o, none⟩) n c
  have HQ := Lib.hid h
  clear h
  go_enter Try.func36, Try.ntmps36
  go_wp2_with fail
  refine (len_any _ _ _ _).mono ?_
  rintro e w' ⟨rfl, rfl⟩
  go_wp2_with fail
  refine (stable_any w b o n c f h0 hn HQ.out).mono ?_
  rintro e w' ⟨rfl, h⟩
  have H := Lib.hid h
  clear h
  go_wp2_with fail
  go_end0
  exact ⟨rfl, H.out⟩
theorem sortStable_none (w : World) (a : Option Addr) (c : Nat) :
    Calls Try.prog 36 #[.iface 54 (.slice a 0 c)] w fun e w' => e = .returned (.tuple #[]) ∧ w = w' := by
  have mN := reach_len a 0 c
  go_enter Try.func36, Try.ntmps36
  go_wp2_with fail
  refine (len_any _ _ _ _).mono ?_
  rintro e w' ⟨rfl, rfl⟩
  have hin : Calls Try.prog 37 #[.iface 54 (.slice a 0 c), .int .i64 0] w fun e w' => e = .returned (.tuple #[]) ∧ w = w' := by
    go_enter Try.func37, Try.ntmps37
    go_wp2_with fail
    refine wp_loop_rounds 1 ?_
    rw [rounds_succ]
    go_wp2_with fail
    refine (ins_none w _ _ 0 0 (by omega) (by omega) (by omega)).mono ?_
    rintro e w' ⟨rfl, rfl⟩
    go_wp2_with fail
    refine wp_loop_rounds 1 ?_
    rw [rounds_succ]
    go_wp2_with fail
    go_end0
    exact ⟨rfl, rfl⟩
  go_wp2_with fail
  refine hin.mono ?_
  rintro e w' ⟨rfl, rfl⟩
  go_wp2_with fail
  go_end0
  exact ⟨rfl, rfl⟩
end Go.Proofs.Ytboiigeomgdkjaa
