/-
  The contracts of spec.Applied and spec.Turned. For edits whose order is settled; for every list of steps.
-/
import Derived.Test.YtboiigeomgdkjaaSorted
set_option linter.unusedVariables false
set_option maxHeartbeats 2000000
set_option maxRecDepth 100000
namespace Go.Proofs.Ytboiigeomgdkjaa
open Go.RowKit Go.PlainAid Go.Lib

/-- every arrangement by the starts is in order, and gives the text T -/
def Txt (d : ByteArray) (ss : List St) (T : Bs) : Prop := ∀ g, Mv 0 ss.length (fnl ss) g → (∀ i j, i < j → j < ss.length → (g i).1 ≤ (g j).1) → Chn g ss.length ∧ finK g (L d) ss.length = T
def AppRel (w1 : World) (g : Nat → St) (d : ByteArray) (n : Nat) (v5 v6 v12 : Value) (wr : World) : Prop :=
  ∃ (k : Nat) (txt : ByteArray), v12 = .int .i64 k ∧ k ≤ n ∧ v5 = .string txt ∧ v6 = .int .i64 (offK g k) ∧ L txt = outK g (L d) k ∧ Below w1.heap.size w1 wr
theorem owns_steps {w : World} {B : Nat} {E : TypeId} {a : Option Addr} {c : Nat} {l : List St} (h : w.ownsRow B E 3 (.slice a l.length c) l.length (stepCells l)) : Arg w w.heap.size 3 a l.length (stepCells l) := by
  refine ⟨stepCells_len l, fun hn => ?_⟩
  rcases h.2 with ⟨_, h2⟩ | ⟨g, cap, cur, h2, hb, hg, hle, hm, hs, htk⟩
  · omega
  · injection h2 with h2
    refine ⟨g, 0, h2, (Array.getElem?_eq_some_iff.1 hg).1, fun j hj => ?_⟩
    rw [Nat.zero_add, cell_of_row w g _ cur E (0, 0) hg, ← htk, List.getElem?_take, if_pos (by omega), Array.getElem?_toList]
theorem str_part {d xt : ByteArray} {l h : Nat} (hx : xt = d.extract l h) (h1 : l ≤ h) (h2 : h ≤ d.size) : ∀ w', (Instr.slice 9 (.string d) (some (.int .i64 (l : Int))) (some (.int .i64 (h : Int))) none).run Try.prog w' = .ok (.string xt) w' := fun w' => by
  rw [run_slice_string w' 9 d .i64 .i64 l h Try.underlying9 (by omega) (by omega) (by omega), hx]
  simp
theorem applied_any (a : Option Addr) (c : Nat) (ss : List St) (d : ByteArray) (T : Bs) (w : World) (ha : Arg w w.heap.size 3 a ss.length (stepCells ss)) (hl : ss.length ≤ 4294967295) (hd : d.size ≤ 4294967296) (hin : ∀ z ∈ ss, inN d.size z) (M : Nat) (hM : ∀ z ∈ ss, z.2.2.size ≤ M) (hMn : ss.length * M ≤ 100000000000000) (hT : Txt d ss T) :
    Calls Try.prog 21 #[.string d, .slice a ss.length c] w (TextPost w (mkB T)) := by
  have HA := Lib.hid ha
  have HT := Lib.hid hT
  have HIN := Lib.hid hin
  have HM := Lib.hid hM
  have HMN := Lib.hid hMn
  clear ha hT hin hM hMn
  go_enter Try.func21, Try.ntmps21
  go_wp2_with fail
  refine (sorted_any a c ss w HA.out hl).mono ?_
  rintro e w1 ⟨l, v, rfl, hln, hmv, hsr, hown, hb1⟩
  obtain ⟨va, vc, rfl⟩ := owns_shape hown
  have HAR := Lib.hid (owns_steps hown)
  have HB1 := Lib.hid hb1
  have hsr2 := srtS_le hsr
  rw [hln] at hsr2
  have HF := Lib.hid (HT.out (fnl l) hmv hsr2)
  have HGI : Hid (∀ k, k < l.length → inN d.size (fnl l k)) := by rw [hln]; exact hmv.all2 (Nat.le_refl _) (mem_fnl HIN.out)
  have HGM : Hid (∀ k, k < l.length → (fnl l k).2.2.size ≤ M) := by rw [hln]; exact hmv.all2 (p := fun z => z.2.2.size ≤ M) (Nat.le_refl _) (mem_fnl HM.out)
  have HML : Hid (l.length * M ≤ 100000000000000) := by rw [hln]; exact HMN
  have HC : Hid (Chn (fnl l) l.length) := by rw [hln]; exact HF.out.1
  have HLN := Lib.hid hln
  have hll : l.length ≤ 4294967295 := by omega
  clear hmv hsr hsr2 hown hb1 hln HIN HT HM HMN
  go_wp2_with fail
  go_loopw [5, 6, 12] (AppRel w1 (fnl l) d l.length) (fun _ _ iv _ => l.length - (intOf iv).toNat)
  case atStart => exact ⟨0, ByteArray.empty, rfl, Nat.zero_le _, rfl, rfl, rfl, Below.refl _ _⟩
  case round =>
    obtain ⟨k, txt, rfl, hk, rfl, rfl, hL, hbel⟩ := hrel
    have HL := Lib.hid hL
    have HBE := Lib.hid hbel
    clear hL hbel
    have hoff : offK (fnl l) k ≤ d.size := offK_le (fun i hi => HGI.out i (by omega))
    have hb1 : txt.size ≤ 200000000000000 := by
      have h1 : txt.size ≤ offK (fnl l) k + k * M := by rw [← L_len, HL.out]; exact outK_len (by rw [L_len]; exact HGI.out) HC.out HGM.out k hk
      have h2 : k * M ≤ 100000000000000 := Nat.le_trans (Nat.mul_le_mul_right M hk) HML.out
      omega
    by_cases hlt : k < l.length
    · obtain ⟨b, o, hae, hbB, q0, q1, q2⟩ := (HAR.out.below HBE.out).step k hlt
      subst hae
      have hi1 := HGI.out k hlt
      have hb3 : (fnl l k).2.2.size ≤ 100000000000000 := by
        have h1 := HGM.out k hlt
        have h2 : 1 * M ≤ l.length * M := Nat.mul_le_mul_right M (by omega)
        have h3 := HML.out
        omega
      have hs1 := offK_start HGI.out HC.out hlt
      have HOS := Lib.hid (outK_succ (fnl l) (L d) k)
      have HFS := Lib.hid (offK_succ (fnl l) k)
      rw [fnl_at l hlt] at hi1 hs1 HOS HFS hb3
      unfold inN at hi1
      obtain ⟨z, hz⟩ : ∃ z, z = l[k] := ⟨_, rfl⟩
      rw [← hz] at q0 q1 q2 hi1 hs1 HOS HFS hb3
      clear hz
      obtain ⟨x, y, t⟩ := z
      dsimp only at q0 q1 q2 hi1 hs1 HOS HFS hb3
      obtain ⟨s, rfl⟩ : ∃ s : Nat, x = (s : Int) := ⟨x.toNat, by omega⟩
      obtain ⟨u, rfl⟩ : ∃ u : Nat, y = (u : Int) := ⟨y.toNat, by omega⟩
      rw [Int.toNat_natCast] at hs1 HOS
      rw [Int.toNat_natCast] at HFS
      obtain ⟨i1, i2, i3⟩ := hi1
      obtain ⟨s1, s2⟩ := hs1
      obtain ⟨off, hO⟩ : ∃ off, off = offK (fnl l) k := ⟨_, rfl⟩
      rw [← hO] at HOS hoff s1 s2
      rw [← hO]
      have HOF := Lib.hid hO
      obtain ⟨xt, hxt⟩ : ∃ xt, xt = d.extract off s := ⟨_, rfl⟩
      have hsl := str_part hxt s1 (by omega)
      have hb2 : xt.size ≤ 4294967296 := by rw [hxt, ByteArray.size_extract]; omega
      have HXT := Lib.hid hxt
      clear hO hxt
      obtain ⟨W0, rfl⟩ : ∃ W0 : World, W0 = wr := ⟨_, rfl⟩
      have hg : ∀ o', (W0.alloc (.cells #[.int .i64 s, .int .i64 u, .string t] 33)).cell? ⟨W0.heap.size, o', none⟩ = #[Value.int .i64 s, .int .i64 u, .string t][o']? := fun o' => cell_of_row _ _ o' _ _ _ (heap_alloc_new W0 _)
      have HG := Lib.hid hg
      have HBA := Lib.hid (HBE.out.alloc HBE.out.size (.cells #[.int .i64 s, .int .i64 u, .string t] 33))
      clear hg
      go_wp2_with fail
      generalize W0.alloc (.cells #[.int .i64 s, .int .i64 u, .string t] 33) = W2 at *
      have g0 : W2.cell? ⟨W0.heap.size, 0, none⟩ = some (.int .i64 s) := HG.out 0
      have g1 : W2.cell? ⟨W0.heap.size, 1, none⟩ = some (.int .i64 u) := HG.out 1
      have g2 : W2.cell? ⟨W0.heap.size, 2, none⟩ = some (.string t) := HG.out 2
      go_quiet (fail)
      clear hsl
      go_wp2_with fail
      go_roundw
      case rel =>
        refine ⟨k + 1, txt ++ (xt ++ t), by go_num, by omega, rfl, by rw [HFS.out], ?_, below_drewN HBA.out _⟩
        rw [HOS.out, ← HL.out, L_append, L_append, HXT.out, L_extract, List.drop_take, List.append_assoc]
      case measure => simp [intOf]; omega
    · obtain ⟨off, hO⟩ : ∃ off, off = offK (fnl l) k := ⟨_, rfl⟩
      rw [← hO] at hoff
      rw [← hO]
      have HOF := Lib.hid hO
      obtain ⟨xt, hxt⟩ : ∃ xt, xt = d.extract off d.size := ⟨_, rfl⟩
      have hsl : ∀ w', (Instr.slice 9 (.string d) (some (.int .i64 (off : Int))) none none).run Try.prog w' = .ok (.string xt) w' := fun w' => by
        rw [run_slice_string_from_if w' 9 d .i64 off Try.underlying9, hxt, if_pos (by omega)]
        simp
      have hb2 : xt.size ≤ 4294967296 := by rw [hxt, ByteArray.size_extract]; omega
      have HXT := Lib.hid hxt
      clear hO hxt
      go_wp2_with fail
      go_ret
      refine ⟨?_, HB1.out.trans (HBE.out.mono HB1.out.size)⟩
      have hkl : k = l.length := by omega
      have : mkB T = txt ++ xt := by
        apply L_inj
        rw [L_mkB, L_append, HL.out, HXT.out, L_drop, HOF.out, ← HF.out.2, hkl, HLN.out]; rfl
      rw [this]; rfl
def TurnPost (ss : List St) (w : World) (e : Ending) (w' : World) : Prop := ∃ v, e = .returned v ∧ w'.ownsRow w.heap.size 33 3 v ss.reverse.length (stepCells ss.reverse) ∧ Below w.heap.size w w'
def RevRel (ss : List St) (w : World) (v3 v4 : Value) (wr : World) : Prop := ∃ k : Nat, v4 = .int .i64 ((k : Int) - 1) ∧ k ≤ ss.length ∧ wr.ownsRow w.heap.size 33 3 v3 ((ss.drop k).reverse).length (stepCells ((ss.drop k).reverse)) ∧ Below w.heap.size w wr
theorem turned_any (a : Option Addr) (c : Nat) (ss : List St) (w : World) (ha : Arg w w.heap.size 3 a ss.length (stepCells ss)) (hl : ss.length ≤ 4294967295) :
    Calls Try.prog 24 #[.slice a ss.length c] w (TurnPost ss w) := by
  have HA := Lib.hid ha
  clear ha
  obtain ⟨i0, hi, hz0, hz1, hz2⟩ := info_parts infoStep
  go_enter Try.func24, Try.ntmps24
  go_wp2
  go_loopw [3, 4] (RevRel ss w) (fun _ iv _ => (intOf iv + 1).toNat)
  case atStart => exact ⟨ss.length, rfl, Nat.le_refl _, by rw [List.drop_length]; exact World.ownsRow_made w #[] 0 (Nat.le_refl _) (by simp [maxLen]) rfl, (Below.refl _ _).alloc (Nat.le_refl _) _⟩
  case round =>
    obtain ⟨k, rfl, hk, hown, hbel⟩ := hrel
    have HB := Lib.hid hbel
    have HOW := Lib.hid hown
    obtain ⟨va, vc, rfl⟩ := owns_shape hown
    clear hbel hown
    by_cases hk0 : k = 0
    · subst hk0
      have h0 : ¬ ((0 : Int) ≤ ((0 : Nat) : Int) - 1) := by omega
      go_wp2_with fail
      go_ret
      refine ⟨_, rfl, ?_, HB.out⟩
      have := HOW.out
      simp only [List.drop_zero, List.length_reverse] at this ⊢
      exact this
    · obtain ⟨i, rfl⟩ : ∃ i, k = i + 1 := ⟨k - 1, by omega⟩
      have hi1 : ((i + 1 : Nat) : Int) - 1 = (i : Int) := by omega
      rw [hi1]
      clear hi1
      obtain ⟨b, o, hae, hbB, q0, q1, q2⟩ := (HA.out.below HB.out).step i (by omega)
      subst hae
      have HD := Lib.hid (List.drop_eq_getElem_cons (show i < ss.length by omega))
      obtain ⟨z, hz⟩ : ∃ z, z = ss[i]'(by omega) := ⟨_, rfl⟩
      rw [← hz] at q0 q1 q2 HD
      clear hz
      obtain ⟨m, hm⟩ : ∃ m, m = (ss.drop (i + 1)).reverse := ⟨_, rfl⟩
      rw [← hm] at HOW ⊢
      have hml : m.length + i + 1 = ss.length := by rw [hm, List.length_reverse, List.length_drop]; omega
      have HM := Lib.hid hm
      clear hm
      have m1 : m.length + 1 ≤ maxLen := by unfold maxLen; omega
      have m2 : (m.length + 1) * 32 ≤ 140737488355328 := by omega
      have hbs := HB.out.size
      have HVB : Hid (∀ g, (Value.slice va m.length vc).ownBlock = some g → w.heap.size ≤ g) := fun g hg => (HOW.out.lt g hg).1
      have hsi : (i : Int) < (ss.length : Int) := by omega
      go_wp2_with (at_builtin; refine wpList_append_own2 _ rfl (.tmp 13) (.tmp 18) 27 rfl w.heap.size 33 i0 _ 3 32 Try.underlying27 hi hz0 hz1 hz2 rfl (by decide) (.slice va m.length vc) m.length (stepCells m) rfl (HOW.out.alloc _) ⟨wr.heap.size, 0, none⟩ 1 1 (stC z) rfl rfl (cells3 _ _ _ _ _) (stC_one _) m1 m2 (by simp; omega) ?_; intro v2 w2 k1 k2 k3; obtain ⟨gb2, c2, rfl⟩ := owns_head k1 (Nat.succ_pos _); have K1 := Lib.hid k1; have HBW := Lib.hid ((HB.out.alloc hbs _).grown k2 (by simp; omega) HVB.out); clear k1 k2 k3)
      go_roundw
      case rel =>
        have e1 : (ss.drop i).reverse = m ++ [z] := by rw [HD.out, List.reverse_cons, ← HM.out]
        refine ⟨i, rfl, by omega, ?_, HBW.out⟩
        rw [e1]
        have e2 : (m ++ [z]).length = m.length + 1 := by simp
        have := owns_app K1.out rfl
        rw [e2] at this
        rw [e2]; exact this
      case measure => simp [intOf]
end Go.Proofs.Ytboiigeomgdkjaa
