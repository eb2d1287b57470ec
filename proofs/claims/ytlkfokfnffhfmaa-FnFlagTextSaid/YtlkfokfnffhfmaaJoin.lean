/-
  The contract of quoted.Join. For every list of arguments that is together at most 4294967296 bytes, with three for each.
-/
import Derived.Test.YtlkfokfnffhfmaaJoinPlain
import Derived.Test.YtlkfokfnffhfmaaSplit
import Derived.Test.YtlkfokfnffhfmaaArg
import Derived.Lib.OthersKept
namespace Go.Proofs.Ytlkfokfnffhfmaa
open Go.RowKit Go.PlainAid

theorem infoU8 : (Try.prog.info? 5).map (fun i => (i.zero, i.size, i.bytes)) = some (some (.int .u8 0), 1, 1) := by kernel_rfl

def JoinPost (ss : List Bs) (w : World) (e : Ending) (w' : World) : Prop :=
  Below w.heap.size w w' ∧ ((ss.any both = true ∧ ∃ T p, e = .returned (.tuple #[.string ByteArray.empty, .iface T p])) ∨ (ss.any both = false ∧ e = .returned (.tuple #[.string (mkB (joinGo ss)), .nilIface])))
def JoinRel (ss : List Bs) (w : World) (bv iv : Value) (wr : World) : Prop :=
  ∃ (k : Nat) (txt : ByteArray), iv = .int .i64 k ∧ k ≤ ss.length ∧ L txt = joinGo (ss.take k) ∧ (ss.take k).any both = false ∧ Row wr w.heap.size 1 bv txt.size (byteCells txt) ∧ Below w.heap.size w wr
/-- the flags behind the first bytes of an argument, and the iterator -/
def FlagRel (s : ByteArray) (K : Nat) (B : Nat) (bv : Value) (txt : ByteArray) (w : World) (v7 v8 v9 : Value) (wr : World) : Prop :=
  bv.ownBlock ≠ some K ∧ B ≤ K ∧ ∃ pos, pos ≤ s.size ∧ v7 = .bool (anyB spI s pos) ∧ v8 = .bool (anyB is39 s pos) ∧ v9 = .bool (anyB is34 s pos) ∧ wr.heap[K]? = some (.stringIter s pos) ∧ Row wr B 1 bv txt.size (byteCells txt) ∧ Below B w wr

theorem Row.iterAt {w : World} {B size n : Nat} {v : Value} {xs : List Value} (h : Row w B size v n xs) {K : Nat} (hne : v.ownBlock ≠ some K) (s : ByteArray) (pos : Nat) : Row (w.iterAt K s pos) B size v n xs :=
  h.keep (by rw [Lib.iterAt_size]; exact Nat.le_refl _) fun g hg _ _ => Lib.iterAt_other w K g s pos (fun e => hne (by rw [hg, e]))
theorem quoteL_eq (x : Bs) : quoteL x = if !(x.any isSp) && !has 39 x && !has 34 x then x else if !has 39 x then 39 :: (x ++ [39]) else 34 :: (x ++ [34]) := rfl
theorem both_eq (x : Bs) : both x = (has 39 x && has 34 x) := rfl
theorem row_two {w : World} {B : Nat} {v : Value} {t s : ByteArray} (h : Row w B 1 v (t.size + s.size) (byteCells t ++ byteCells s)) : Row w B 1 v (t ++ s).size (byteCells (t ++ s)) := by
  rw [ByteArray.size_append, byteCells_append]; exact h
theorem row_quoted {w : World} {B : Nat} {v : Value} {t s : ByteArray} (q : UInt8) (h : Row w B 1 v (t.size + 1 + s.size + 1) (byteCells t ++ [.int .u8 (q.toNat : Int)] ++ byteCells s ++ [.int .u8 (q.toNat : Int)])) : Row w B 1 v (t ++ ⟨#[q]⟩ ++ s ++ ⟨#[q]⟩).size (byteCells (t ++ ⟨#[q]⟩ ++ s ++ ⟨#[q]⟩)) := by
  rw [ByteArray.size_append, ByteArray.size_append, ByteArray.size_append, byteCells_append, byteCells_append, byteCells_append]; exact h
theorem joinRel_end {ss : List Bs} {w w' : World} {v : Value} {k : Nat} {t s x : ByteArray} (hlt : k < ss.length) (hK : L t ++ quoteL (L s) = joinGo (ss.take (k + 1))) (hnb : (ss.take k).any both = false) (hE : L s = ss[k])
    (hb : both (L s) = false) (hx : L x = L t ++ quoteL (L s)) (hr : Row w' w.heap.size 1 v x.size (byteCells x)) (hbel : Below w.heap.size w w') : JoinRel ss w v (.int .i64 ((k : Int) + 1)) w' :=
  ⟨k + 1, x, by go_num, by omega, by rw [hx, hK], by rw [List.take_succ_eq_append_getElem hlt, List.any_append, hnb]; simp [← hE, hb], hr, hbel⟩
/-- what an iterator has still to give -/
def iterLeft (wr : World) (K : Nat) (s : ByteArray) : Nat := match wr.heap[K]? with | some (.stringIter _ p) => s.size - p | _ => 0
theorem iterLeft_at {wr : World} {K : Nat} {s : ByteArray} {pos : Nat} (h : wr.heap[K]? = some (.stringIter s pos)) : iterLeft wr K s = s.size - pos := by unfold iterLeft; rw [h]
theorem flag_end {s : ByteArray} {K B : Nat} {bv : Value} {txt : ByteArray} {w wr : World} {v7 v8 v9 : Value} {pos m : Nat} (hne : bv.ownBlock ≠ some K) (hBK : B ≤ K) (hp : pos + m ≤ s.size)
    (hi : wr.heap[K]? = some (.stringIter s pos)) (hr : Row wr B 1 bv txt.size (byteCells txt)) (hb : Below B w wr)
    (h7 : v7 = .bool (anyB spI s (pos + m))) (h8 : v8 = .bool (anyB is39 s (pos + m))) (h9 : v9 = .bool (anyB is34 s (pos + m))) : FlagRel s K B bv txt w v7 v8 v9 (wr.iterAt K s (pos + m)) :=
  ⟨hne, hBK, pos + m, hp, h7, h8, h9, Lib.iterAt_heap wr K s pos _ hi, hr.iterAt hne s _, Lib.below_iterAt hb hBK s _⟩

set_option maxRecDepth 100000 in
set_option maxHeartbeats 4000000 in
theorem join_any (a : Option Addr) (c : Nat) (ss : List Bs) (w : World) (ha : Arg w w.heap.size 1 a ss.length (ss.map S)) (ht : tot ss ≤ 4294967296) :
    Calls Try.prog 37 #[.slice a ss.length c] w (JoinPost ss w) := by
  obtain ⟨i0, hi, hz0, hz1, hz2⟩ := info_parts infoU8
  have HA := Lib.hid ha
  have HT := Lib.hid ht
  have hlen : ss.length ≤ 4294967296 := Nat.le_trans (len_tot ss) ht
  clear ha ht
  go_enter Try.func37, Try.ntmps37
  go_wp2
  go_loopw [4, 14] (JoinRel ss w) (fun _ iv _ => ss.length - (intOf iv).toNat)
  case atStart => exact ⟨0, ByteArray.empty, rfl, Nat.zero_le _, rfl, rfl, Row.nil _ _ _, Below.refl _ _⟩
  case round =>
    obtain ⟨k, txt, rfl, hk, hL, hnb, hrow, hbel⟩ := hrel
    obtain ⟨wo, rfl⟩ : ∃ wo : World, wo = wr := ⟨_, rfl⟩
    have HL := Lib.hid hL
    have HW := Lib.hid hrow
    have HNB := Lib.hid hnb
    clear hL hnb hrow
    by_cases hlt : k < ss.length
    · obtain ⟨b, o, rfl, hb, hx⟩ := (HA.out.below hbel).at_ (by omega)
      have hc := hx k (by omega)
      rw [List.getElem?_map, List.getElem?_eq_getElem hlt, Option.map_some] at hc
      unfold S at hc
      have hst : (mkB ss[k]).size + 3 + tot (ss.take k) ≤ 4294967296 := by
        have := tot_take ss k hlt; have := HT.out; rw [size_mkB]; omega
      have htx : txt.size ≤ tot (ss.take k) := by
        rw [← L_len, HL.out]; exact joinGo_len _
      have HE : Hid (L (mkB ss[k]) = ss[k]) := L_mkB _
      generalize mkB ss[k] = s at *
      have HST := Lib.hid hst
      have HTX := Lib.hid htx
      have hsz : txt.size + s.size + 3 ≤ 4294967296 := by omega
      clear hst htx hx
      by_cases hk0 : k = 0
      · have HKK : Hid (L txt ++ quoteL (L s) = joinGo (ss.take (k + 1))) := by
          show _ = _
          rw [HL.out, HE.out]; subst hk0; simp [joinGo, List.take_succ_eq_append_getElem hlt]
        have hk1 : ¬ ((0 : Int) < (k : Int)) := by omega
        have hbz : txt.size + s.size + 2 ≤ 4294967296 := by omega
        obtain ⟨W, rfl⟩ : ∃ W : World, W = wo := ⟨_, rfl⟩
        obtain ⟨txt2, rfl⟩ : ∃ t2 : ByteArray, t2 = txt := ⟨_, rfl⟩
        obtain ⟨v, rfl⟩ : ∃ v : Value, v = u4 := ⟨_, rfl⟩
        have HK0 := Lib.hid hk0
        clear hk0
        go_wp2
        have HNE : Hid (v.ownBlock ≠ some W.heap.size) := fun e => by have := HW.out.blt _ e; omega
        go_loopw [7, 8, 9] (FlagRel s W.heap.size w.heap.size v txt2 w) (fun _ _ _ wr => iterLeft wr W.heap.size s)
        case atStart => exact ⟨HNE.out, hbel.size, 0, Nat.zero_le _, rfl, rfl, rfl, World.iter_heap W s 0, HW.out.alloc _, hbel.alloc hbel.size _⟩
        case round =>
          obtain ⟨hne, hBK, pos, hp, rfl, rfl, rfl, hit, hr, hbl⟩ := hrel
          have HR := Lib.hid hr
          have HBL := Lib.hid hbl
          have HIT := Lib.hid hit
          have HN2 := Lib.hid hne
          clear hr hbl hne
          have hb := get_bt s
          by_cases hps : pos < s.size
          · have meas : ∀ m, 1 ≤ m → iterLeft (wr.iterAt W.heap.size s (pos + m)) W.heap.size s < iterLeft wr W.heap.size s := fun m hm => by
              rw [iterLeft_at (Lib.iterAt_heap wr W.heap.size s pos _ HIT.out), iterLeft_at HIT.out]; omega
            have HME := Lib.hid meas
            clear meas
            have b0 := bt_nonneg s pos
            by_cases hhi : 128 ≤ bt s pos
            · have hdw := decode_wide s pos hps hhi
              have hdh := decode_high s pos hps (by have := get_bt s pos hps; omega)
              have hnx := fun ty => Lib.run_next_any_at (P := Try.prog) wr W.heap.size s pos ty HIT.out hps
              have hdl := decode_le s pos
              generalize (Utf8.decode s pos).1 = r at *
              generalize (Utf8.decode s pos).2 = m at *
              have HDW := Lib.hid hdw
              have hr1 : (127 : Int) < (r : Int) := by omega
              obtain ⟨hr2, hm1⟩ := hdh
              clear hdw hit
              go_wp2
              go_roundw
              case rel => exact flag_end HN2.out hBK HDW.out.1 HIT.out HR.out HBL.out (by rw [anyB_skip _ _ _ _ (fun j h1 h2 => (high_not _ (HDW.out.2 j h1 h2)).1)]) (by rw [anyB_skip _ _ _ _ (fun j h1 h2 => (high_not _ (HDW.out.2 j h1 h2)).2.1)]) (by rw [anyB_skip _ _ _ _ (fun j h1 h2 => (high_not _ (HDW.out.2 j h1 h2)).2.2)])
              case measure => exact HME.out m hm1
            · have hnx := fun ty => Lib.run_next_ascii_at (P := Try.prog) wr W.heap.size s pos ty HIT.out hps (by have := get_bt s pos hps; omega)
              have hlo : bt s pos ≤ 127 := by omega
              clear hhi hit
              by_cases hsp : spI (bt s pos) = true
              · have h39 : is39 (bt s pos) = false := by
                  unfold spI at hsp; unfold is39; simp only [Bool.or_eq_true, beq_iff_eq] at hsp; rw [beq_eq_false_iff_ne]; omega
                have h34 : is34 (bt s pos) = false := by
                  unfold spI at hsp; unfold is34; simp only [Bool.or_eq_true, beq_iff_eq] at hsp; rw [beq_eq_false_iff_ne]; omega
                have H39 := Lib.hid h39
                have H34 := Lib.hid h34
                clear h39 h34
                go_wp2_with (go_at_call 49; refine (isSpace_yes _ _ (by assumption)).mono ?_; rintro e w' ⟨rfl, rfl⟩)
                go_roundw
                case rel => exact flag_end HN2.out hBK (by omega) HIT.out HR.out HBL.out (by rw [anyB_succ, hsp, Bool.or_true]) (by rw [anyB_succ, H39.out, Bool.or_false]) (by rw [anyB_succ, H34.out, Bool.or_false])
                case measure => exact HME.out 1 (by omega)
              · have hsp' : spI (bt s pos) = false := by simpa using hsp
                clear hsp
                by_cases h39 : (bt s pos == 39) = true
                · have H34 : Hid (is34 (bt s pos) = false) := by
                    show _ = _; unfold is34; rw [beq_iff_eq] at h39; rw [beq_eq_false_iff_ne]; omega
                  go_wp2_with (go_at_call 49; refine (isSpace_no _ _ (by assumption)).mono ?_; rintro e w' ⟨rfl, rfl⟩)
                  go_roundw
                  case rel => exact flag_end HN2.out hBK (by omega) HIT.out HR.out HBL.out (by rw [anyB_succ, hsp', Bool.or_false]) (by rw [anyB_succ, is39, h39, Bool.or_true]) (by rw [anyB_succ, H34.out, Bool.or_false])
                  case measure => exact HME.out 1 (by omega)
                · have h39' : (bt s pos == 39) = false := by simpa using h39
                  clear h39
                  by_cases h34 : (bt s pos == 34) = true
                  · go_wp2_with (go_at_call 49; refine (isSpace_no _ _ (by assumption)).mono ?_; rintro e w' ⟨rfl, rfl⟩)
                    go_roundw
                    case rel => exact flag_end HN2.out hBK (by omega) HIT.out HR.out HBL.out (by rw [anyB_succ, hsp', Bool.or_false]) (by rw [anyB_succ, is39, h39', Bool.or_false]) (by rw [anyB_succ, is34, h34, Bool.or_true])
                    case measure => exact HME.out 1 (by omega)
                  · have h34' : (bt s pos == 34) = false := by simpa using h34
                    clear h34
                    go_wp2_with (go_at_call 49; refine (isSpace_no _ _ (by assumption)).mono ?_; rintro e w' ⟨rfl, rfl⟩)
                    go_roundw
                    case rel => exact flag_end HN2.out hBK (by omega) HIT.out HR.out HBL.out (by rw [anyB_succ, hsp', Bool.or_false]) (by rw [anyB_succ, is39, h39', Bool.or_false]) (by rw [anyB_succ, is34, h34', Bool.or_false])
                    case measure => exact HME.out 1 (by omega)
          · obtain rfl : pos = s.size := by omega
            have hnx := fun ty => Lib.run_next_end_at (P := Try.prog) wr W.heap.size s s.size ty HIT.out (by omega)
            clear hit
            obtain ⟨W2, rfl⟩ : ∃ W2 : World, W2 = wr := ⟨_, rfl⟩
            have hbl2 := HBL.out
            clear HBL HIT HN2 hBK hb
            have hq := quoteL_eq (L s)
            have hbo := both_eq (L s)
            rw [← any_sp, ← any_39, ← any_34] at hq
            rw [← any_39, ← any_34] at hbo
            have HQ := Lib.hid hq
            have HBO := Lib.hid hbo
            clear hq hbo
            generalize anyB spI s s.size = f1 at *
            generalize anyB is39 s s.size = f2 at *
            generalize anyB is34 s s.size = f3 at *
            have m1 : txt2.size + s.size ≤ maxLen := by unfold maxLen; omega
            have m2 : (txt2.size + s.size) * 1 ≤ 140737488355328 := by omega
            have m3 : txt2.size + 1 ≤ maxLen := by unfold maxLen; omega
            have m4 : (txt2.size + 1) * 1 ≤ 140737488355328 := by omega
            have m5 : txt2.size + 1 + s.size ≤ maxLen := by unfold maxLen; omega
            have m6 : (txt2.size + 1 + s.size) * 1 ≤ 140737488355328 := by omega
            have m7 : txt2.size + 1 + s.size + 1 ≤ maxLen := by unfold maxLen; omega
            have m8 : (txt2.size + 1 + s.size + 1) * 1 ≤ 140737488355328 := by omega
            by_cases hA : f1 = false ∧ f2 = false ∧ f3 = false
            · obtain ⟨rfl, rfl, rfl⟩ := hA
              go_wp2_with (at_builtin; refine wpList_append_row W2 rfl (.tmp 54) (.tmp 55) 65 9 rfl w.heap.size 5 i0 (.int .u8 0) 1 1 Try.underlying65 hi hz0 hz1 hz2 rfl _ _ _ HR.out rfl _ _ _ (Src.ofString _ Try.underlying9 s) rfl m1 m2 hbl2.size ?_; intro v1 w1 hrw1 hgw1 hkw1; have hbw1 := hbl2.grown hgw1 hbl2.size (HR.out).blk; have HRW1 := Lib.hid hrw1; clear hrw1 hgw1 hkw1)
              go_roundw
              case rel => exact joinRel_end hlt HKK.out HNB.out HE.out (by rw [HBO.out]; rfl) (x := txt2 ++ s) (by rw [L_append, HQ.out]; rfl) (row_two HRW1.out) hbw1
              case measure => simp [intOf]; omega
            · by_cases hB : f2 = false
              · subst hB
                have hB2 : (f1 = true ∧ f3 = true) ∨ (f1 = true ∧ f3 = false) ∨ (f1 = false ∧ f3 = true) := by
                  cases f1 <;> cases f3 <;> simp_all
                clear hA
                rcases hB2 with ⟨rfl, rfl⟩ | ⟨rfl, rfl⟩ | ⟨rfl, rfl⟩
                all_goals
                  go_wp2_with (first | (at_builtin; refine wpList_append_one W2 rfl (.tmp 60) (.tmp 61) 65 rfl w.heap.size 5 i0 (.int .u8 0) 1 Try.underlying65 hi hz0 hz1 hz2 rfl _ _ _ HR.out rfl (.int .u8 39) rfl rfl m3 m4 hbl2.size hbl2 ?_; intro v1 w1 hrw1 hbw1 hgw1 hkw1; have HRW1 := Lib.hid hrw1; clear hrw1 hgw1 hkw1) | (at_builtin; refine wpList_append_row w1 rfl (.tmp 63) (.tmp 64) 65 9 rfl w.heap.size 5 i0 (.int .u8 0) 1 1 Try.underlying65 hi hz0 hz1 hz2 rfl _ _ _ HRW1.out rfl _ _ _ (Src.ofString _ Try.underlying9 s) rfl m5 m6 hbw1.size ?_; intro v2 w2 hrw2 hgw2 hkw2; have hbw2 := hbw1.grown hgw2 hbw1.size (HRW1.out).blk; have HRW2 := Lib.hid hrw2; clear hrw2 hgw2 hkw2) | (at_builtin; refine wpList_append_one w2 rfl (.tmp 66) (.tmp 67) 65 rfl w.heap.size 5 i0 (.int .u8 0) 1 Try.underlying65 hi hz0 hz1 hz2 rfl _ _ _ HRW2.out rfl (.int .u8 39) rfl rfl m7 m8 hbw2.size hbw2 ?_; intro v3 w3 hrw3 hbw3 hgw3 hkw3; have HRW3 := Lib.hid hrw3; clear hrw3 hgw3 hkw3))
                  go_roundw
                  case rel => exact joinRel_end hlt HKK.out HNB.out HE.out (by rw [HBO.out]; rfl) (x := txt2 ++ ⟨#[39]⟩ ++ s ++ ⟨#[39]⟩) (by rw [L_append, L_append, L_append, HQ.out, List.append_assoc, List.append_assoc]; rfl) (row_quoted 39 HRW3.out) hbw3
                  case measure => simp [intOf]; omega
              · have hB' : f2 = true := by simpa using hB
                subst hB'
                clear hA hB
                by_cases hC : f3 = false
                · subst hC
                  rcases Bool.eq_false_or_eq_true f1 with rfl | rfl
                  all_goals
                    go_wp2_with (first | (at_builtin; refine wpList_append_one W2 rfl (.tmp 72) (.tmp 73) 65 rfl w.heap.size 5 i0 (.int .u8 0) 1 Try.underlying65 hi hz0 hz1 hz2 rfl _ _ _ HR.out rfl (.int .u8 34) rfl rfl m3 m4 hbl2.size hbl2 ?_; intro v1 w1 hrw1 hbw1 hgw1 hkw1; have HRW1 := Lib.hid hrw1; clear hrw1 hgw1 hkw1) | (at_builtin; refine wpList_append_row w1 rfl (.tmp 75) (.tmp 76) 65 9 rfl w.heap.size 5 i0 (.int .u8 0) 1 1 Try.underlying65 hi hz0 hz1 hz2 rfl _ _ _ HRW1.out rfl _ _ _ (Src.ofString _ Try.underlying9 s) rfl m5 m6 hbw1.size ?_; intro v2 w2 hrw2 hgw2 hkw2; have hbw2 := hbw1.grown hgw2 hbw1.size (HRW1.out).blk; have HRW2 := Lib.hid hrw2; clear hrw2 hgw2 hkw2) | (at_builtin; refine wpList_append_one w2 rfl (.tmp 78) (.tmp 79) 65 rfl w.heap.size 5 i0 (.int .u8 0) 1 Try.underlying65 hi hz0 hz1 hz2 rfl _ _ _ HRW2.out rfl (.int .u8 34) rfl rfl m7 m8 hbw2.size hbw2 ?_; intro v3 w3 hrw3 hbw3 hgw3 hkw3; have HRW3 := Lib.hid hrw3; clear hrw3 hgw3 hkw3))
                    go_roundw
                    case rel => exact joinRel_end hlt HKK.out HNB.out HE.out (by rw [HBO.out]; rfl) (x := txt2 ++ ⟨#[34]⟩ ++ s ++ ⟨#[34]⟩) (by rw [L_append, L_append, L_append, HQ.out, List.append_assoc, List.append_assoc]; rfl) (row_quoted 34 HRW3.out) hbw3
                    case measure => simp [intOf]; omega
                · have hC' : f3 = true := by simpa using hC
                  subst hC'
                  clear hC
                  rcases Bool.eq_false_or_eq_true f1 with rfl | rfl
                  all_goals
                    go_wp2_with (go_at_call 50; refine (errNew_any _ _).mono ?_; rintro e w' ⟨rfl, rfl⟩)
                    go_ret2
                    refine ⟨hbl2.alloc hbl2.size _, .inl ⟨?_, _, _, rfl⟩⟩
                    rw [List.any_eq_true]
                    exact ⟨ss[k], List.getElem_mem _, by rw [← HE.out, HBO.out]; rfl⟩
      · have m1 : txt.size + 1 ≤ maxLen := by unfold maxLen; omega
        have m2 : (txt.size + 1) * 1 ≤ 140737488355328 := by omega
        have hk1 : (0 : Int) < (k : Int) := by omega
        have HKK0 : Hid (L (txt ++ ⟨#[32]⟩) ++ quoteL (L s) = joinGo (ss.take (k + 1))) := by
          show _ = _
          rw [L_append, HL.out, HE.out, List.take_succ_eq_append_getElem hlt, joinGo_snoc _ _ (by intro e; have h1 := congrArg List.length e; rw [List.length_take, List.length_nil] at h1; omega), List.append_assoc]; rfl
        go_wp2_with (at_builtin; refine wpList_append_one wo rfl (.tmp 21) (.tmp 22) 65 rfl w.heap.size 5 i0 (.int .u8 0) 1 Try.underlying65 hi hz0 hz1 hz2 rfl _ _ _ HW.out rfl (.int .u8 32) rfl rfl m1 m2 hbel.size hbel ?_; intro v1 w1 hrow1 hbel1 hg1 hbk1; have HW1 := Lib.hid hrow1; clear hrow1 hg1 hbk1)
        have HW2 : Hid (Row w1 w.heap.size 1 v1 (txt ++ ⟨#[32]⟩).size (byteCells (txt ++ ⟨#[32]⟩))) := by
          show Row _ _ _ _ _ _; rw [ByteArray.size_append, byteCells_append]; exact HW1.out
        have hbz0 : (txt ++ ⟨#[32]⟩).size + s.size + 2 ≤ 4294967296 := by
          have e32 : (txt ++ ⟨#[32]⟩).size = txt.size + 1 := by rw [ByteArray.size_append]; rfl
          rw [e32]; clear m1 m2; omega
        clear m1 m2 HW HW1 hbel hk0 hsz hc
        obtain ⟨W, rfl⟩ : ∃ W : World, W = w1 := ⟨_, rfl⟩
        obtain ⟨v, rfl⟩ : ∃ v : Value, v = v1 := ⟨_, rfl⟩
        generalize txt ++ ⟨#[32]⟩ = txt2 at HKK0 HW2 hbz0
        have HKK := HKK0
        have HW := HW2
        have hbel := hbel1
        have hbz := hbz0
        clear HKK0 HW2 hbel1 hbz0
        have HNE : Hid (v.ownBlock ≠ some W.heap.size) := fun e => by have := HW.out.blt _ e; omega
        go_loopw [7, 8, 9] (FlagRel s W.heap.size w.heap.size v txt2 w) (fun _ _ _ wr => iterLeft wr W.heap.size s)
        case atStart => exact ⟨HNE.out, hbel.size, 0, Nat.zero_le _, rfl, rfl, rfl, World.iter_heap W s 0, HW.out.alloc _, hbel.alloc hbel.size _⟩
        case round =>
          obtain ⟨hne, hBK, pos, hp, rfl, rfl, rfl, hit, hr, hbl⟩ := hrel
          have HR := Lib.hid hr
          have HBL := Lib.hid hbl
          have HIT := Lib.hid hit
          have HN2 := Lib.hid hne
          clear hr hbl hne
          have hb := get_bt s
          by_cases hps : pos < s.size
          · have meas : ∀ m, 1 ≤ m → iterLeft (wr.iterAt W.heap.size s (pos + m)) W.heap.size s < iterLeft wr W.heap.size s := fun m hm => by
              rw [iterLeft_at (Lib.iterAt_heap wr W.heap.size s pos _ HIT.out), iterLeft_at HIT.out]; omega
            have HME := Lib.hid meas
            clear meas
            have b0 := bt_nonneg s pos
            by_cases hhi : 128 ≤ bt s pos
            · have hdw := decode_wide s pos hps hhi
              have hdh := decode_high s pos hps (by have := get_bt s pos hps; omega)
              have hnx := fun ty => Lib.run_next_any_at (P := Try.prog) wr W.heap.size s pos ty HIT.out hps
              have hdl := decode_le s pos
              generalize (Utf8.decode s pos).1 = r at *
              generalize (Utf8.decode s pos).2 = m at *
              have HDW := Lib.hid hdw
              have hr1 : (127 : Int) < (r : Int) := by omega
              obtain ⟨hr2, hm1⟩ := hdh
              clear hdw hit
              go_wp2
              go_roundw
              case rel => exact flag_end HN2.out hBK HDW.out.1 HIT.out HR.out HBL.out (by rw [anyB_skip _ _ _ _ (fun j h1 h2 => (high_not _ (HDW.out.2 j h1 h2)).1)]) (by rw [anyB_skip _ _ _ _ (fun j h1 h2 => (high_not _ (HDW.out.2 j h1 h2)).2.1)]) (by rw [anyB_skip _ _ _ _ (fun j h1 h2 => (high_not _ (HDW.out.2 j h1 h2)).2.2)])
              case measure => exact HME.out m hm1
            · have hnx := fun ty => Lib.run_next_ascii_at (P := Try.prog) wr W.heap.size s pos ty HIT.out hps (by have := get_bt s pos hps; omega)
              have hlo : bt s pos ≤ 127 := by omega
              clear hhi hit
              by_cases hsp : spI (bt s pos) = true
              · have h39 : is39 (bt s pos) = false := by
                  unfold spI at hsp; unfold is39; simp only [Bool.or_eq_true, beq_iff_eq] at hsp; rw [beq_eq_false_iff_ne]; omega
                have h34 : is34 (bt s pos) = false := by
                  unfold spI at hsp; unfold is34; simp only [Bool.or_eq_true, beq_iff_eq] at hsp; rw [beq_eq_false_iff_ne]; omega
                have H39 := Lib.hid h39
                have H34 := Lib.hid h34
                clear h39 h34
                go_wp2_with (go_at_call 49; refine (isSpace_yes _ _ (by assumption)).mono ?_; rintro e w' ⟨rfl, rfl⟩)
                go_roundw
                case rel => exact flag_end HN2.out hBK (by omega) HIT.out HR.out HBL.out (by rw [anyB_succ, hsp, Bool.or_true]) (by rw [anyB_succ, H39.out, Bool.or_false]) (by rw [anyB_succ, H34.out, Bool.or_false])
                case measure => exact HME.out 1 (by omega)
              · have hsp' : spI (bt s pos) = false := by simpa using hsp
                clear hsp
                by_cases h39 : (bt s pos == 39) = true
                · have H34 : Hid (is34 (bt s pos) = false) := by
                    show _ = _; unfold is34; rw [beq_iff_eq] at h39; rw [beq_eq_false_iff_ne]; omega
                  go_wp2_with (go_at_call 49; refine (isSpace_no _ _ (by assumption)).mono ?_; rintro e w' ⟨rfl, rfl⟩)
                  go_roundw
                  case rel => exact flag_end HN2.out hBK (by omega) HIT.out HR.out HBL.out (by rw [anyB_succ, hsp', Bool.or_false]) (by rw [anyB_succ, is39, h39, Bool.or_true]) (by rw [anyB_succ, H34.out, Bool.or_false])
                  case measure => exact HME.out 1 (by omega)
                · have h39' : (bt s pos == 39) = false := by simpa using h39
                  clear h39
                  by_cases h34 : (bt s pos == 34) = true
                  · go_wp2_with (go_at_call 49; refine (isSpace_no _ _ (by assumption)).mono ?_; rintro e w' ⟨rfl, rfl⟩)
                    go_roundw
                    case rel => exact flag_end HN2.out hBK (by omega) HIT.out HR.out HBL.out (by rw [anyB_succ, hsp', Bool.or_false]) (by rw [anyB_succ, is39, h39', Bool.or_false]) (by rw [anyB_succ, is34, h34, Bool.or_true])
                    case measure => exact HME.out 1 (by omega)
                  · have h34' : (bt s pos == 34) = false := by simpa using h34
                    clear h34
                    go_wp2_with (go_at_call 49; refine (isSpace_no _ _ (by assumption)).mono ?_; rintro e w' ⟨rfl, rfl⟩)
                    go_roundw
                    case rel => exact flag_end HN2.out hBK (by omega) HIT.out HR.out HBL.out (by rw [anyB_succ, hsp', Bool.or_false]) (by rw [anyB_succ, is39, h39', Bool.or_false]) (by rw [anyB_succ, is34, h34', Bool.or_false])
                    case measure => exact HME.out 1 (by omega)
          · obtain rfl : pos = s.size := by omega
            have hnx := fun ty => Lib.run_next_end_at (P := Try.prog) wr W.heap.size s s.size ty HIT.out (by omega)
            clear hit
            obtain ⟨W2, rfl⟩ : ∃ W2 : World, W2 = wr := ⟨_, rfl⟩
            have hbl2 := HBL.out
            clear HBL HIT HN2 hBK hb
            have hq := quoteL_eq (L s)
            have hbo := both_eq (L s)
            rw [← any_sp, ← any_39, ← any_34] at hq
            rw [← any_39, ← any_34] at hbo
            have HQ := Lib.hid hq
            have HBO := Lib.hid hbo
            clear hq hbo
            generalize anyB spI s s.size = f1 at *
            generalize anyB is39 s s.size = f2 at *
            generalize anyB is34 s s.size = f3 at *
            have m1 : txt2.size + s.size ≤ maxLen := by unfold maxLen; omega
            have m2 : (txt2.size + s.size) * 1 ≤ 140737488355328 := by omega
            have m3 : txt2.size + 1 ≤ maxLen := by unfold maxLen; omega
            have m4 : (txt2.size + 1) * 1 ≤ 140737488355328 := by omega
            have m5 : txt2.size + 1 + s.size ≤ maxLen := by unfold maxLen; omega
            have m6 : (txt2.size + 1 + s.size) * 1 ≤ 140737488355328 := by omega
            have m7 : txt2.size + 1 + s.size + 1 ≤ maxLen := by unfold maxLen; omega
            have m8 : (txt2.size + 1 + s.size + 1) * 1 ≤ 140737488355328 := by omega
            by_cases hA : f1 = false ∧ f2 = false ∧ f3 = false
            · obtain ⟨rfl, rfl, rfl⟩ := hA
              go_wp2_with (at_builtin; refine wpList_append_row W2 rfl (.tmp 54) (.tmp 55) 65 9 rfl w.heap.size 5 i0 (.int .u8 0) 1 1 Try.underlying65 hi hz0 hz1 hz2 rfl _ _ _ HR.out rfl _ _ _ (Src.ofString _ Try.underlying9 s) rfl m1 m2 hbl2.size ?_; intro v1 w1 hrw1 hgw1 hkw1; have hbw1 := hbl2.grown hgw1 hbl2.size (HR.out).blk; have HRW1 := Lib.hid hrw1; clear hrw1 hgw1 hkw1)
              go_roundw
              case rel => exact joinRel_end hlt HKK.out HNB.out HE.out (by rw [HBO.out]; rfl) (x := txt2 ++ s) (by rw [L_append, HQ.out]; rfl) (row_two HRW1.out) hbw1
              case measure => simp [intOf]; omega
            · by_cases hB : f2 = false
              · subst hB
                have hB2 : (f1 = true ∧ f3 = true) ∨ (f1 = true ∧ f3 = false) ∨ (f1 = false ∧ f3 = true) := by
                  cases f1 <;> cases f3 <;> simp_all
                clear hA
                rcases hB2 with ⟨rfl, rfl⟩ | ⟨rfl, rfl⟩ | ⟨rfl, rfl⟩
                all_goals
                  go_wp2_with (first | (at_builtin; refine wpList_append_one W2 rfl (.tmp 60) (.tmp 61) 65 rfl w.heap.size 5 i0 (.int .u8 0) 1 Try.underlying65 hi hz0 hz1 hz2 rfl _ _ _ HR.out rfl (.int .u8 39) rfl rfl m3 m4 hbl2.size hbl2 ?_; intro v1 w1 hrw1 hbw1 hgw1 hkw1; have HRW1 := Lib.hid hrw1; clear hrw1 hgw1 hkw1) | (at_builtin; refine wpList_append_row w1 rfl (.tmp 63) (.tmp 64) 65 9 rfl w.heap.size 5 i0 (.int .u8 0) 1 1 Try.underlying65 hi hz0 hz1 hz2 rfl _ _ _ HRW1.out rfl _ _ _ (Src.ofString _ Try.underlying9 s) rfl m5 m6 hbw1.size ?_; intro v2 w2 hrw2 hgw2 hkw2; have hbw2 := hbw1.grown hgw2 hbw1.size (HRW1.out).blk; have HRW2 := Lib.hid hrw2; clear hrw2 hgw2 hkw2) | (at_builtin; refine wpList_append_one w2 rfl (.tmp 66) (.tmp 67) 65 rfl w.heap.size 5 i0 (.int .u8 0) 1 Try.underlying65 hi hz0 hz1 hz2 rfl _ _ _ HRW2.out rfl (.int .u8 39) rfl rfl m7 m8 hbw2.size hbw2 ?_; intro v3 w3 hrw3 hbw3 hgw3 hkw3; have HRW3 := Lib.hid hrw3; clear hrw3 hgw3 hkw3))
                  go_roundw
                  case rel => exact joinRel_end hlt HKK.out HNB.out HE.out (by rw [HBO.out]; rfl) (x := txt2 ++ ⟨#[39]⟩ ++ s ++ ⟨#[39]⟩) (by rw [L_append, L_append, L_append, HQ.out, List.append_assoc, List.append_assoc]; rfl) (row_quoted 39 HRW3.out) hbw3
                  case measure => simp [intOf]; omega
              · have hB' : f2 = true := by simpa using hB
                subst hB'
                clear hA hB
                by_cases hC : f3 = false
                · subst hC
                  rcases Bool.eq_false_or_eq_true f1 with rfl | rfl
                  all_goals
                    go_wp2_with (first | (at_builtin; refine wpList_append_one W2 rfl (.tmp 72) (.tmp 73) 65 rfl w.heap.size 5 i0 (.int .u8 0) 1 Try.underlying65 hi hz0 hz1 hz2 rfl _ _ _ HR.out rfl (.int .u8 34) rfl rfl m3 m4 hbl2.size hbl2 ?_; intro v1 w1 hrw1 hbw1 hgw1 hkw1; have HRW1 := Lib.hid hrw1; clear hrw1 hgw1 hkw1) | (at_builtin; refine wpList_append_row w1 rfl (.tmp 75) (.tmp 76) 65 9 rfl w.heap.size 5 i0 (.int .u8 0) 1 1 Try.underlying65 hi hz0 hz1 hz2 rfl _ _ _ HRW1.out rfl _ _ _ (Src.ofString _ Try.underlying9 s) rfl m5 m6 hbw1.size ?_; intro v2 w2 hrw2 hgw2 hkw2; have hbw2 := hbw1.grown hgw2 hbw1.size (HRW1.out).blk; have HRW2 := Lib.hid hrw2; clear hrw2 hgw2 hkw2) | (at_builtin; refine wpList_append_one w2 rfl (.tmp 78) (.tmp 79) 65 rfl w.heap.size 5 i0 (.int .u8 0) 1 Try.underlying65 hi hz0 hz1 hz2 rfl _ _ _ HRW2.out rfl (.int .u8 34) rfl rfl m7 m8 hbw2.size hbw2 ?_; intro v3 w3 hrw3 hbw3 hgw3 hkw3; have HRW3 := Lib.hid hrw3; clear hrw3 hgw3 hkw3))
                    go_roundw
                    case rel => exact joinRel_end hlt HKK.out HNB.out HE.out (by rw [HBO.out]; rfl) (x := txt2 ++ ⟨#[34]⟩ ++ s ++ ⟨#[34]⟩) (by rw [L_append, L_append, L_append, HQ.out, List.append_assoc, List.append_assoc]; rfl) (row_quoted 34 HRW3.out) hbw3
                    case measure => simp [intOf]; omega
                · have hC' : f3 = true := by simpa using hC
                  subst hC'
                  clear hC
                  rcases Bool.eq_false_or_eq_true f1 with rfl | rfl
                  all_goals
                    go_wp2_with (go_at_call 50; refine (errNew_any _ _).mono ?_; rintro e w' ⟨rfl, rfl⟩)
                    go_ret2
                    refine ⟨hbl2.alloc hbl2.size _, .inl ⟨?_, _, _, rfl⟩⟩
                    rw [List.any_eq_true]
                    exact ⟨ss[k], List.getElem_mem _, by rw [← HE.out, HBO.out]; rfl⟩
    · obtain rfl : k = ss.length := by omega
      have hcv := run_string_row wo Try.underlying65 Try.underlying5 HW.out 9 Try.underlying9
      have HL2 := HL.out
      rw [List.take_of_length_le (Nat.le_refl _)] at HL2
      have HN2 := HNB.out
      rw [List.take_of_length_le (Nat.le_refl _)] at HN2
      have HX := Lib.hid HL2
      have HY := Lib.hid HN2
      clear HL2 HN2
      go_wp2
      go_ret2
      exact ⟨hbel, .inr ⟨HY.out, by rw [← HX.out, mkB_L]; rfl⟩⟩
end Go.Proofs.Ytlkfokfnffhfmaa
