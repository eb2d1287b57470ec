/-
  The walk of the law FnEditsQueue. For every input.
-/
import Derived.Test.YtboiigeomgdkjaaPutArgs
set_option linter.unusedVariables false
set_option maxHeartbeats 4000000
set_option maxRecDepth 100000
namespace Go.Proofs.Ytboiigeomgdkjaa
open Go.RowKit Go.PlainAid Go.Lib

/-- the insertions, all at one place -/
def putS (n : Nat) (ps : List Bs) : List St := ps.map fun p => ((n : Int), (n : Int), mkB p)
/-- the queue: the insertions, then what takes the bytes behind -/
def queS (n m : Nat) (ps : List Bs) (t : ByteArray) : List St := putS n ps ++ [((n : Int), (n : Int) + (m : Int), t)]
theorem putS_snoc (n : Nat) (ps : List Bs) (p : Bs) : putS n (ps ++ [p]) = putS n ps ++ [((n : Int), (n : Int), mkB p)] := by simp [putS]
theorem putS_len (n : Nat) (ps : List Bs) : (putS n ps).length = ps.length := by simp [putS]
theorem queS_len (n m : Nat) (ps : List Bs) (t : ByteArray) : (queS n m ps t).length = ps.length + 1 := by simp [queS, putS]
theorem queS_lt {n m : Nat} {ps : List Bs} {t : ByteArray} {k : Nat} (hk : k < ps.length) : fnl (queS n m ps t) k = ((n : Int), (n : Int), mkB ps[k]) := by
  rw [fnl_at _ (by rw [queS_len]; omega)]
  unfold queS
  rw [List.getElem_append_left (by rw [putS_len]; exact hk)]
  simp [putS]
theorem queS_last {n m : Nat} {ps : List Bs} {t : ByteArray} : fnl (queS n m ps t) ps.length = ((n : Int), (n : Int) + (m : Int), t) := by
  unfold queS
  have := fnl_snoc (putS n ps) ((n : Int), (n : Int) + (m : Int), t)
  rwa [putS_len] at this
theorem flat_succ (ps : List Bs) (k : Nat) (hk : k < ps.length) : (ps.take k).flatten ++ ps[k] = (ps.take (k + 1)).flatten := by
  rw [List.take_succ_eq_append_getElem hk, List.flatten_append]
  simp only [List.flatten_cons, List.flatten_nil, List.append_nil]
theorem queS_out (n m : Nat) (ps : List Bs) (t : ByteArray) (d : Bs) (hn : n ≤ d.length) : ∀ k, k ≤ ps.length → outK (fnl (queS n m ps t)) d k = (if k = 0 then [] else d.take n) ++ (ps.take k).flatten ∧ offK (fnl (queS n m ps t)) k = if k = 0 then 0 else n := by
  intro k
  induction k with
  | zero => intro _; simp [outK, offK]
  | succ k ih =>
    intro hk
    obtain ⟨h1, h2⟩ := ih (by omega)
    have hq := queS_lt (n := n) (m := m) (t := t) (ps := ps) (k := k) (by omega)
    refine ⟨?_, ?_⟩
    · rw [outK_succ, h1, h2, hq, L_mkB, ← flat_succ ps k (by omega)]
      by_cases hk0 : k = 0
      · subst hk0; simp
      · simp only [hk0, if_false, Int.toNat_natCast, Nat.sub_self, List.take_zero, List.append_nil, List.append_assoc, Nat.add_eq_zero_iff, false_and]
    · rw [offK_succ, hq]; simp
theorem good_que (b t e p : ByteArray) (ps : List Bs) (hb : b.size ≤ 1000000) (ht : t.size ≤ 1000000) (he : e.size ≤ 1000000) (hp : p.size ≤ 1000000) (hl : ps.length ≤ 1000000) (hs : ∀ x ∈ ps, x.length ≤ 1000000) :
    Good (b ++ t ++ e) (queS b.size t.size ps p) (L b ++ ps.flatten ++ L p ++ L e) := by
  have hsz : (b ++ t ++ e).size = b.size + t.size + e.size := by rw [ByteArray.size_append, ByteArray.size_append]
  have hlt : ∀ k, k < ps.length + 1 → ((fnl (queS b.size t.size ps p) k).1 = (b.size : Int)) ∧ (b.size : Int) ≤ (fnl (queS b.size t.size ps p) k).2.1 ∧ (fnl (queS b.size t.size ps p) k).2.1 ≤ (b.size : Int) + t.size ∧ (k < ps.length → (fnl (queS b.size t.size ps p) k).2.1 = (b.size : Int)) ∧ (fnl (queS b.size t.size ps p) k).2.2.size ≤ 1000000 := by
    intro k hk
    by_cases h : k < ps.length
    · rw [queS_lt h]
      refine ⟨rfl, by dsimp only; omega, by dsimp only; omega, fun _ => rfl, ?_⟩
      dsimp only
      rw [size_mkB]; exact hs _ (List.getElem_mem _)
    · obtain rfl : k = ps.length := by omega
      rw [queS_last]
      exact ⟨rfl, by dsimp only; omega, by dsimp only; omega, fun h => absurd h (by omega), hp⟩
  have hmem : ∀ z ∈ queS b.size t.size ps p, ∃ k, k < ps.length + 1 ∧ z = fnl (queS b.size t.size ps p) k := by
    intro z hz
    obtain ⟨k, hk, rfl⟩ := List.mem_iff_getElem.1 hz
    refine ⟨k, by rwa [queS_len] at hk, (fnl_at _ hk).symm⟩
  refine good_sorted 1000000 (by omega) (by rw [queS_len]; omega) ?_ ?_ (by rw [queS_len]; omega) ?_ ?_ ?_
  · intro z hz
    obtain ⟨k, hk, rfl⟩ := hmem z hz
    obtain ⟨a1, a2, a3, _⟩ := hlt k hk
    unfold inN; omega
  · intro z hz
    obtain ⟨k, hk, rfl⟩ := hmem z hz
    exact (hlt k hk).2.2.2.2
  · intro i j _ hij hj
    rw [queS_len] at hj
    obtain ⟨a1, a2, a3, a4, _⟩ := hlt i (by omega)
    obtain ⟨b1, b2, b3, _⟩ := hlt j hj
    unfold ltE
    rw [if_pos (by rw [a1, b1])]
    have := a4 (by omega)
    simp; omega
  · intro i j hij hj
    rw [queS_len] at hj
    obtain ⟨a1, a2, a3, a4, _⟩ := hlt i (by omega)
    obtain ⟨b1, _⟩ := hlt j hj
    have := a4 (by omega)
    omega
  · have hn : b.size ≤ (L (b ++ t ++ e)).length := by rw [L_len]; omega
    obtain ⟨o1, o2⟩ := queS_out b.size t.size ps p (L (b ++ t ++ e)) hn ps.length (Nat.le_refl _)
    have tk : (L (b ++ t ++ e)).take b.size = L b := by rw [L_append, L_append, List.append_assoc, ← L_len b, List.take_left]
    have dr : (L (b ++ t ++ e)).drop (b.size + t.size) = L e := by rw [L_append, L_append, ← L_len b, ← L_len t, ← List.length_append, List.drop_left]
    rw [queS_len]
    unfold finK
    rw [outK_succ, offK_succ, o1, o2, queS_last, List.take_length]
    dsimp only
    rw [show ((b.size : Int) + (t.size : Int)).toNat = b.size + t.size by omega, dr, Int.toNat_natCast]
    by_cases h0 : ps.length = 0
    · obtain rfl : ps = [] := List.eq_nil_of_length_eq_zero h0
      simp [tk]
    · simp [h0, tk]

theorem tot1_mem {l : List Bs} {x : Bs} (h : x ∈ l) : x.length ≤ tot1 l := by
  induction l with
  | nil => cases h
  | cons a l ih =>
    simp only [tot1, List.map_cons, List.sum_cons] at *
    rcases List.mem_cons.1 h with rfl | h
    · omega
    · have := ih h; omega
theorem tot1_flat (l : List Bs) : l.flatten.length + l.length = tot1 l := by
  induction l with
  | nil => rfl
  | cons a l ih => simp only [tot1, List.map_cons, List.sum_cons, List.flatten_cons, List.length_append, List.length_cons] at *; omega
def QuRel (w : World) (n : Nat) (b : ByteArray) (ps : List Bs) (v11 v12 iv : Value) (wr : World) : Prop :=
  ∃ (k : Nat) (txt : ByteArray), iv = .int .i64 k ∧ k ≤ ps.length ∧ v12 = .string txt ∧ L txt = L b ++ (ps.take k).flatten ∧ wr.ownsRow w.heap.size 33 3 v11 k (stepCells (putS n (ps.take k))) ∧ Below w.heap.size w wr
theorem walkFnEditsQueue (w : World) (b : ByteArray) (wb : b.size ≤ maxLen) (t : ByteArray) (wt : t.size ≤ maxLen) (e : ByteArray) (we : e.size ≤ maxLen) (a : Option Addr) (len cap : Nat) (zs : List ByteArray) (hzl : zs.length = len) (hlc : len ≤ cap) (hcm : cap ≤ maxLen) (hwf : ∀ s ∈ zs, s.size ≤ maxLen) (ha0 : Arg w w.heap.size 1 a len (zs.map Value.string)) (p : ByteArray) (wp : p.size ≤ maxLen) :
    Calls Try.prog 9 #[.string b, .string t, .string e, .slice a len cap, .string p] w fun e w' => e = .returned (.bool true) ∧ Below w.heap.size w w' := by
  subst hzl
  have ha := argS_L ha0
  obtain ⟨ps, hps⟩ : ∃ ps : List Bs, ps = zs.map L := ⟨_, rfl⟩
  have hpl : zs.length = ps.length := by rw [hps]; simp
  have HF : Hid (∀ s ∈ ps, s.length ≤ maxLen) := fun s hs => by
    rw [hps] at hs
    obtain ⟨z, hz, rfl⟩ := List.mem_map.1 hs
    rw [L_len]; exact hwf z hz
  rw [← hps, hpl] at ha
  rw [hpl] at hlc ⊢
  have HA := Lib.hid ha
  clear ha ha0 hps hpl hwf
  have hlm : ps.length ≤ maxLen := Nat.le_trans hlc hcm
  unfold maxLen at wb wt we wp hcm
  obtain ⟨i0, hi, hz0, hz1, hz2⟩ := info_parts infoStep
  by_cases h1 : 2147483647 < b.size
  · go_enter Try.func9, Try.ntmps9
    go_wp2
    go_ret
    exact ⟨rfl, Below.refl _ _⟩
  by_cases h2 : 2147483647 < t.size
  · go_enter Try.func9, Try.ntmps9
    go_wp2
    go_ret
    exact ⟨rfl, Below.refl _ _⟩
  by_cases h3 : 2147483647 < e.size
  · go_enter Try.func9, Try.ntmps9
    go_wp2
    go_ret
    exact ⟨rfl, Below.refl _ _⟩
  go_enter Try.func9, Try.ntmps9
  go_wp2_with fail
  refine (fits3_any a cap ps w _ HA.out hlm HF.out).mono ?_
  rintro e' w' ⟨bb, rfl, rfl, hbb⟩
  cases bb with
  | false =>
    go_wp2_with fail
    go_ret
    exact ⟨rfl, Below.refl _ _⟩
  | true =>
  have HBB := Lib.hid (hbb rfl)
  have hl2 : ps.length ≤ 2147483647 := HBB.out.1
  clear hbb
  by_cases h4 : 2147483647 < p.size
  · go_wp2_with fail
    go_ret
    exact ⟨rfl, Below.refl _ _⟩
  go_wp2_with fail
  refine (sizeOf_any a cap ps w _ HA.out hl2 HBB.out.2).mono ?_
  rintro e' w' ⟨z, rfl, rfl, hz1', hz2', hz3'⟩
  have HZ := Lib.hid hz3'
  clear hz3'
  by_cases h5 : 1000000 < (b.size : Int) + t.size + e.size + z + p.size
  · go_wp2_with (go_at_call 13; refine (tooLong_yes5 _ _ _ _ _ _ (by omega) (by omega) (by omega) (by omega) (by omega) (by omega) (by omega) (by omega) (by omega) (by omega) (by omega)).mono ?_; rintro e w' ⟨rfl, rfl⟩)
    go_ret
    exact ⟨rfl, (Below.refl _ _).alloc (Nat.le_refl _) _⟩
  have HT := Lib.hid (HZ.out (by omega))
  have HS : Hid (∀ x ∈ ps, x.length ≤ 1000000) := fun x hx => by have := tot1_mem hx; have := HT.out; omega
  have hpl : ps.length ≤ 1000000 := by have := tot1_flat ps; have := HT.out; omega
  have HG := Lib.hid (good_que b t e p ps (by omega) (by omega) (by omega) (by omega) hpl HS.out)
  obtain ⟨W1, hW1⟩ : ∃ W1 : World, W1 = w.alloc (.cells #[.int .i64 (b.size : Int), .int .i64 (t.size : Int), .int .i64 (e.size : Int), .int .i64 z, .int .i64 (p.size : Int)] 3) := ⟨_, rfl⟩
  have HB1 : Hid (Below w.heap.size w W1) := by rw [hW1]; exact (Below.refl _ _).alloc (Nat.le_refl _) _
  have hcall := tooLong_no5 w (b.size : Int) (t.size : Int) (e.size : Int) z (p.size : Int) (by omega) (by omega) (by omega) (by omega) (by omega) (by omega)
  rw [← hW1] at hcall
  have HW1 := Lib.hid hW1
  clear hW1
  have hbs := HB1.out.size
  have HR0 : Hid (QuRel w b.size b ps (.slice (some ⟨W1.heap.size, 0, none⟩) 0 0) (.string b) (.int .i64 0) (W1.alloc (.cells #[] 33))) := ⟨0, b, rfl, Nat.zero_le _, rfl, by simp, (World.ownsRow_made (e := 33) W1 #[] 0 hbs (by simp [maxLen]) rfl), HB1.out.alloc hbs _⟩
  have hbz : b.size ≤ 1000000 := by omega
  have htz : t.size ≤ 1000000 := by omega
  have hez : e.size ≤ 1000000 := by omega
  have hpz : p.size ≤ 1000000 := by omega
  clear h5 hz1' hz2' HZ
  go_wp2_with fail
  rw [← HW1.out]
  refine hcall.mono ?_
  rintro e' w' ⟨rfl, rfl⟩
  clear hcall
  go_wp2_with fail
  go_loopw [11, 12, 54] (QuRel w b.size b ps) (fun _ _ iv _ => ps.length - (intOf iv).toNat)
  case atStart => exact HR0.out
  case round =>
    clear HR0
    obtain ⟨k, txt, rfl, hk, rfl, hL, hown, hbel⟩ := hrel
    have HL := Lib.hid hL
    have HOW := Lib.hid hown
    have HB := Lib.hid hbel
    obtain ⟨va, vc, rfl⟩ := owns_shape hown
    clear hL hown hbel
    have hbs2 := HB.out.size
    have htx : txt.size ≤ 3000000 := by
      have h1 := congrArg List.length HL.out
      rw [L_len, List.length_append, L_len] at h1
      have h2 : (ps.take k).flatten.length ≤ ps.flatten.length := by
        rw [← List.take_append_drop k ps, List.flatten_append, List.length_append, List.take_append_drop]; omega
      have h3 := tot1_flat ps
      have h4 := HT.out
      omega
    by_cases hlt : k < ps.length
    · obtain ⟨bb, o, rfl, hb, hc⟩ := (HA.out.below HB.out).cell hlt
      have hsz : (mkB ps[k]).size ≤ 1000000 := by rw [size_mkB]; exact HS.out _ (List.getElem_mem _)
      have HTK := Lib.hid (List.take_succ_eq_append_getElem hlt)
      have HM : Hid (L (mkB ps[k]) = ps[k]) := L_mkB _
      have HPS : Hid (putS b.size (ps.take (k + 1)) = putS b.size (ps.take k) ++ [((b.size : Int), (b.size : Int), mkB ps[k])]) := by show _ = _; rw [HTK.out, putS_snoc]
      generalize mkB ps[k] = s at *
      have hkl : (putS b.size (ps.take k)).length = k := by rw [putS_len, List.length_take]; omega
      have HKL := Lib.hid hkl
      have m1 : k + 1 ≤ maxLen := by unfold maxLen; omega
      have m2 : (k + 1) * 32 ≤ 140737488355328 := by omega
      clear hkl
      go_wp2_with (at_builtin; refine wpList_append_own2 _ rfl (.tmp 58) (.tmp 65) 27 rfl w.heap.size 33 i0 _ 3 32 Try.underlying27 hi hz0 hz1 hz2 rfl (by decide) (.slice va k vc) k (stepCells (putS b.size (ps.take k))) rfl (HOW.out.alloc _) ⟨wr.heap.size, 0, none⟩ 1 1 (stC ((b.size : Int), (b.size : Int), s)) rfl rfl (cells3 _ _ _ _ _) (stC_one _) m1 m2 (by simp; omega) ?_; intro v2 w2 k1 k2 k3; obtain ⟨b2, c2, rfl⟩ := owns_shape k1; have K1 := Lib.hid k1; have HBW := Lib.hid ((HB.out.alloc hbs2 _).grown k2 (by simp; omega) (fun g hg => (HOW.out.lt g hg).1)); clear k1 k2 k3)
      go_roundw
      case rel =>
        refine ⟨k + 1, txt ++ s, by go_num, by omega, rfl, ?_, ?_, HBW.out⟩
        · rw [L_append, HL.out, HM.out, List.append_assoc, flat_succ ps k hlt]
        · have := owns_app K1.out (by rw [HKL.out])
          rw [← HPS.out, putS_len, List.length_take, show min (k + 1) ps.length = k + 1 by omega] at this
          exact this
      case measure => simp [intOf]; omega
    · obtain ⟨n, hn⟩ : ∃ n, n = ps.length := ⟨_, rfl⟩
      have hkn : k = ps.length := by omega
      have HPS : Hid (queS b.size t.size ps p = putS b.size (ps.take k) ++ [((b.size : Int), (b.size : Int) + (t.size : Int), p)]) := by show _ = _; rw [hkn, List.take_length]; rfl
      have HQL : Hid ((queS b.size t.size ps p).length = k + 1) := by show _ = _; rw [queS_len, hkn]
      have HKL : Hid (k = (putS b.size (ps.take k)).length) := by show _ = _; rw [putS_len, List.length_take]; omega
      have HFL : Hid (L b ++ ps.flatten ++ L p ++ L e = L (txt ++ p ++ e)) := by show _ = _; rw [L_append, L_append, HL.out, hkn, List.take_length]
      have m1 : k + 1 ≤ maxLen := by unfold maxLen; omega
      have m2 : (k + 1) * 32 ≤ 140737488355328 := by omega
      clear hn hkn
      go_wp2_with (at_builtin; refine wpList_append_own2 _ rfl (.tmp 71) (.tmp 81) 27 rfl w.heap.size 33 i0 _ 3 32 Try.underlying27 hi hz0 hz1 hz2 rfl (by decide) (.slice va k vc) k (stepCells (putS b.size (ps.take k))) rfl (HOW.out.alloc _) ⟨wr.heap.size, 0, none⟩ 1 1 (stC ((b.size : Int), (b.size : Int) + (t.size : Int), p)) rfl rfl (cells3 _ _ _ _ _) (stC_one _) m1 m2 (by simp; omega) ?_; intro v2 w2 k1 k2 k3; obtain ⟨b2, c2, rfl⟩ := owns_shape k1; have K1 := Lib.hid k1; have HBW := Lib.hid ((HB.out.alloc hbs2 _).grown k2 (by simp; omega) (fun g hg => (HOW.out.lt g hg).1)); clear k1 k2 k3)
      have ho := owns_app K1.out (by rw [← HKL.out])
      rw [← HPS.out, HQL.out] at ho
      have har := owns_steps (l := queS b.size t.size ps p) (a := b2) (c := c2) (by rw [HQL.out]; exact ho)
      have hed := edited_any w2 (b ++ t ++ e) (queS b.size t.size ps p) b2 c2 har _ HG.out
      rw [HFL.out, mkB_L, HQL.out] at hed
      clear ho har
      refine hed.mono ?_
      clear hed
      rintro e' w3 ⟨rfl, hb⟩
      have HB3 := Lib.hid (HBW.out.trans (hb.mono HBW.out.size))
      clear hb
      go_wp2_with fail
      go_ret
      exact ⟨rfl, HB3.out⟩
end Go.Proofs.Ytboiigeomgdkjaa
