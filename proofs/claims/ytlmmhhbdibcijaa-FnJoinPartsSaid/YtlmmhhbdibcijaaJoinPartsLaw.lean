/-
  The walk of the law FnJoinParts. For every input.
-/
import Derived.Test.YtlmmhhbdibcijaaJoinLaws
namespace Go.Proofs.Ytlmmhhbdibcijaa
open Go.RowKit Go.PlainAid Go.Lib

theorem Arg.src {P : Program} {w : World} {B n : Nat} {a : Option Addr} {xs : List Value} {tx e' : TypeId} (h : Arg w B 1 a n xs) (hk : P.underlying tx = some (.slice e')) (h1 : ∀ u ∈ xs, u.oneCell' = true) (c : Nat) : Src P 1 tx (.slice a n c) n xs w := by
  rcases Nat.eq_zero_or_pos n with h0 | h0
  · subst h0
    obtain rfl : xs = [] := List.eq_nil_of_length_eq_zero (by simpa using h.1)
    cases a with
    | none => exact Src.ofNil _ hk c
    | some x => exact Src.ofSlice _ hk x 0 c [] rfl (fun j u hu => by simp at hu) (by simp)
  · obtain ⟨b, o, rfl, _, hx⟩ := h.at_ h0
    refine Src.ofSlice _ hk ⟨b, o, none⟩ n c xs h.1 (fun j u hu => ?_) h1
    rw [Addr.add_lit]
    have hj : j < n * 1 := by have := (List.getElem?_eq_some_iff.1 hu).1; have := h.1; omega
    exact (hx j hj).trans hu
theorem one_S (ss : List Bs) : ∀ u ∈ ss.map S, u.oneCell' = true := fun u hu => by
  obtain ⟨s, _, rfl⟩ := List.mem_map.1 hu; rfl
theorem wpList_append_row_g {P : Program} (w : World) {ops : Array Oper} {rest : List Oper} {o : Oper} {a : Act} {Q : Exit → Act → World → Prop} (hgd : Region.wanted o (yielded ops a.tmps) = true) (s x : Operand) (t tx : TypeId)
    (ho : o.op = .call { callee := .builtin .append, args := #[s, x], argTypes := #[t, tx] })
    (B : Nat) (e : TypeId) (i : TypeInfo) (z : Value) (size bytes : Nat) (ht : P.underlying t = some (.slice e)) (hi : P.info? e = some i) (hz : i.zero = some z) (hsize : i.size = size) (hby : i.bytes = bytes) (hzs : z.cells.size = size)
    (v : Value) (n : Nat) (xs : List Value) (h : Row w B size v n xs) (hv : a.eval s = v) (xv : Value) (m : Nat) (news : List Value) (hs : Src P size tx xv m news w) (hx : a.eval x = xv)
    (h63 : n + m ≤ maxLen) (hbytes : (n + m) * bytes ≤ 140737488355328) (hB : B ≤ w.heap.size)
    (hK : ∀ v' w', Row w' B size v' (n + m) (xs ++ news) → w.grownBy w' v.ownBlock → (v'.ownBlock = v.ownBlock ∨ v'.ownBlock = some w.heap.size) → wpList P ops Q rest (a.put o.dst v') w') : wpList P ops Q (o :: rest) a w := by
  refine wpList_step fun K hK' => ?_
  rw [if_pos hgd]
  obtain ⟨v', w', hrun, h2, h3, h4⟩ := run_append_row (P := P) w B t tx o.type e i z size bytes ht hi hz hsize hby hzs h xv m news hs h63 hbytes hB
  unfold Oper.wp
  simp [execOp, ho, resolve, invoke, builtin, hv, hx, hrun, Result.andThen]
  exact hK' _ _ (hK v' w' h2 h3 h4)

theorem other_block {v : Value} {x : Option Nat} {n : Nat} (h : ∀ g, v.ownBlock = some g → g < n) (hx : ∀ g, x = some g → n ≤ g) : v.ownBlock ≠ x ∨ v.ownBlock = none := by
  cases hv : v.ownBlock with
  | none => exact .inr rfl
  | some g => exact .inl fun e => by have h1 := h g hv; have h2 := hx g e.symm; omega
theorem own_new (n a b : Nat) : ∀ g, (Value.slice (some ⟨n, 0, none⟩) a b).ownBlock = some g → n ≤ g := fun g h => by simp [Value.ownBlock] at h; omega
theorem own_next {W : World} {v v' : Value} {m : Nat} (h : v'.ownBlock = v.ownBlock ∨ v'.ownBlock = some m) (hv : ∀ g, v.ownBlock = some g → W.heap.size ≤ g) (hm : W.heap.size ≤ m) : ∀ g, v'.ownBlock = some g → W.heap.size ≤ g := fun g hg => by
  rcases h with h | h
  · exact hv g (by rw [← h]; exact hg)
  · rw [h] at hg; cases hg; exact hm

set_option maxHeartbeats 1000000 in
theorem walkFnJoinParts (w : World) (a : Option Addr) (len cap : Nat) (z : List ByteArray) (l : z.length = len) (c : len ≤ cap) (m : cap ≤ maxLen) (f : ∀ s ∈ z, s.size ≤ maxLen) (g : Arg w w.heap.size 1 a len (z.map Value.string))
    (a' : Option Addr) (len' cap' : Nat) (z' : List ByteArray) (l' : z'.length = len') (c' : len' ≤ cap') (m' : cap' ≤ maxLen) (f' : ∀ s ∈ z', s.size ≤ maxLen) (g' : Arg w w.heap.size 1 a' len' (z'.map Value.string)) :
    Calls Try.prog 11 #[.slice a len cap, .slice a' len' cap'] w fun e w' => e = .returned (.bool true) ∧ Below w.heap.size w w' := by
  have g1 := arg_L g
  have f1 : ∀ s ∈ z.map L, s.length ≤ maxLen := fun s hs => by
    obtain ⟨t, ht, rfl⟩ := List.mem_map.1 hs; rw [L_len]; exact f t ht
  have l1 : (z.map L).length = len := by simpa using l
  generalize z.map L = ss at *
  subst l1
  have hm : ss.length ≤ maxLen := Nat.le_trans c m
  have HA := Lib.hid g1
  have HF := Lib.hid f1
  clear g g1 f f1 l c m
  have g1' := arg_L g'
  have f1' : ∀ s ∈ z'.map L, s.length ≤ maxLen := fun s hs => by
    obtain ⟨t, ht, rfl⟩ := List.mem_map.1 hs; rw [L_len]; exact f' t ht
  have l1' : (z'.map L).length = len' := by simpa using l'
  generalize z'.map L = ss' at *
  subst l1'
  have hm' : ss'.length ≤ maxLen := Nat.le_trans c' m'
  have HA' := Lib.hid g1'
  have HF' := Lib.hid f1'
  clear g' g1' f' f1' l' c' m'
  go_enter Try.func11, Try.ntmps11
  go_wp2_with fail
  refine (fits3_any a cap ss _ _ HA.out hm HF.out).mono ?_
  rintro e w1 ⟨b, rfl, rfl, hfit⟩
  cases b with
  | false =>
    clear hfit
    go_wp2
    go_ret
    exact ⟨rfl, Below.refl _ _⟩
  | true =>
  obtain ⟨hl, hs⟩ := hfit rfl
  have HS := Lib.hid hs
  clear hfit hs hm
  go_wp2_with fail
  refine (fits3_any a' cap' ss' _ _ HA'.out hm' HF'.out).mono ?_
  rintro e w1 ⟨b, rfl, rfl, hfit⟩
  cases b with
  | false =>
    clear hfit
    go_wp2
    go_ret
    exact ⟨rfl, Below.refl _ _⟩
  | true =>
  obtain ⟨hl', hs⟩ := hfit rfl
  have HS' := Lib.hid hs
  clear hfit hs hm'
  go_wp2_with fail
  refine (sizeOf_any a cap ss _ _ HA.out hl HS.out).mono ?_
  rintro e w1 ⟨zz, rfl, rfl, z0, z1, hz⟩
  have HZ := Lib.hid hz
  clear hz
  go_wp2_with fail
  refine (sizeOf_any a' cap' ss' _ _ HA'.out hl' HS'.out).mono ?_
  rintro e w1 ⟨zz', rfl, rfl, z0', z1', hz⟩
  have HZ' := Lib.hid hz
  clear hz
  by_cases hzl : 1000000 < zz + zz'
  · go_wp2_with (go_at_call 15; refine (tooLong_yes2 _ _ _ (by omega) (by omega) (by omega) (by omega) (by omega)).mono ?_; rintro e w' ⟨rfl, rfl⟩)
    go_ret
    exact ⟨rfl, (Below.refl _ _).alloc (Nat.le_refl _) _⟩
  have ht1 : tot1 ss ≤ 1000000 := HZ.out (by omega)
  have ht1' : tot1 ss' ≤ 1000000 := HZ'.out (by omega)
  have ht : tot ss ≤ 3000000 := by have := tot_tot1 ss; omega
  have ht' : tot ss' ≤ 3000000 := by have := tot_tot1 ss'; omega
  have h32 : (⟨#[32]⟩ : ByteArray).size = 1 := rfl
  have HB0 := Lib.hid ((Below.refl w.heap.size w).alloc (Nat.le_refl _) (.cells #[.int .i64 zz, .int .i64 zz'] 3))
  go_wp2_with (go_at_call 15; refine (tooLong_no2 _ _ _ (by omega) (by omega) (by omega)).mono ?_; rintro e w' ⟨rfl, rfl⟩)
  have HA1 : Hid (Arg (w.alloc (.cells #[.int .i64 zz, .int .i64 zz'] 3)) (w.alloc (.cells #[.int .i64 zz, .int .i64 zz'] 3)).heap.size 1 a ss.length (ss.map S)) := (HA.out.below HB0.out).more (by simp)
  cases hall : (joinable ss && joinable ss') with
  | false =>
    have HALL := Lib.hid hall
    clear hall
    refine (implJoin_free a cap ss _ HA1.out (by omega)).mono ?_
    rintro e w2 ⟨s, ok, rfl, hsz, hb2⟩
    have HB2 := Lib.hid (HB0.out.trans (hb2.mono (by simp)))
    clear hb2
    go_wp2_with fail
    refine (implJoin_free a' cap' ss' _ ((HA'.out.below HB2.out).more HB2.out.size) (by omega)).mono ?_
    rintro e w3 ⟨s', ok', rfl, hsz', hb3⟩
    have HB3 := Lib.hid (HB2.out.trans (hb3.mono HB2.out.size))
    clear hb3
    go_wp2_with fail
    refine (implSplit_free _ _ (by rw [ByteArray.size_append, ByteArray.size_append, h32]; omega)).mono ?_
    rintro e w4 ⟨v4, ok4, rfl, hb4⟩
    have HB4 := Lib.hid (HB3.out.trans (hb4.mono HB3.out.size))
    clear hb4
    go_wp2_with fail
    refine (joinable_any a cap ss _ _ (HA.out.below HB4.out) hl HF.out).mono ?_
    cases hj : joinable ss with
    | false =>
      clear hj
      rintro e w5 ⟨rfl, rfl⟩
      go_wp2_with fail
      refine (implJoin_a _ _).mono ?_
      rintro e w6 ⟨rfl, hb6⟩
      have HB6 := Lib.hid (HB4.out.trans (hb6.mono HB4.out.size))
      clear hb6
      go_wp2
      go_ret
      exact ⟨rfl, HB6.out⟩
    | true =>
      have HJ' : Hid (joinable ss' = false) := by show _ = _; have := HALL.out; rw [hj] at this; simpa using this
      clear hj
      rintro e w5 ⟨rfl, rfl⟩
      go_wp2_with fail
      refine (joinable_any a' cap' ss' _ _ (HA'.out.below HB4.out) hl' HF'.out).mono ?_
      rw [HJ'.out]
      rintro e w5 ⟨rfl, rfl⟩
      go_wp2_with fail
      refine (implJoin_a _ _).mono ?_
      rintro e w6 ⟨rfl, hb6⟩
      have HB6 := Lib.hid (HB4.out.trans (hb6.mono HB4.out.size))
      clear hb6
      go_wp2
      go_ret
      exact ⟨rfl, HB6.out⟩
  | true =>
    have hjj : joinable ss = true ∧ joinable ss' = true := by simpa using hall
    have HJ := Lib.hid hjj.1
    have HJ' := Lib.hid hjj.2
    clear hjj hall
    refine (implJoin_yes a cap ss _ HA1.out (by omega) (joinable_both HJ.out)).mono ?_
    rintro e w2 ⟨rfl, hb2⟩
    have HB2 := Lib.hid (HB0.out.trans (hb2.mono (by simp)))
    clear hb2
    have hjs : (mkB (joinGo ss)).size ≤ 3000000 := by rw [size_mkB]; have := joinGo_len ss; omega
    have HLM : Hid (L (mkB (joinGo ss)) = joinGo ss) := L_mkB _
    generalize mkB (joinGo ss) = s at *
    go_wp2_with fail
    refine (implJoin_yes a' cap' ss' _ ((HA'.out.below HB2.out).more HB2.out.size) (by omega) (joinable_both HJ'.out)).mono ?_
    rintro e w3 ⟨rfl, hb3⟩
    have HB3 := Lib.hid (HB2.out.trans (hb3.mono HB2.out.size))
    clear hb3
    have hjs' : (mkB (joinGo ss')).size ≤ 3000000 := by rw [size_mkB]; have := joinGo_len ss'; omega
    have HLM' : Hid (L (mkB (joinGo ss')) = joinGo ss') := L_mkB _
    generalize mkB (joinGo ss') = s' at *
    have HSP : Hid (splitL (L (s ++ ⟨#[32]⟩ ++ s')) = some (ss ++ ss')) := by
      show _ = _
      rw [L_append, L_append, HLM.out, HLM'.out, List.append_assoc]
      exact join_parts ss ss' HJ.out HJ'.out
    go_wp2_with fail
    refine (implSplit_some _ (ss ++ ss') _ (by rw [ByteArray.size_append, ByteArray.size_append, h32]; omega) HSP.out).mono ?_
    rintro e w4 ⟨v4, rfl, hr4, hb4⟩
    have HB4 := Lib.hid (HB3.out.trans (hb4.mono HB3.out.size))
    have HR4 := Lib.hid hr4
    have hll : (ss ++ ss').length = ss.length + ss'.length := List.length_append
    clear hr4
    have hr4 := HR4.out
    rw [hll] at hr4
    clear HR4
    have HR4 := Lib.hid hr4
    obtain ⟨a4, c4, rfl⟩ := hr4.shape
    clear hb4 hr4
    go_wp2_with fail
    refine (joinable_any a cap ss _ _ (HA.out.below HB4.out) hl HF.out).mono ?_
    rw [HJ.out]
    rintro e w5 ⟨rfl, rfl⟩
    go_wp2_with fail
    refine (joinable_any a' cap' ss' _ _ (HA'.out.below HB4.out) hl' HF'.out).mono ?_
    rw [HJ'.out]
    rintro e w5 ⟨rfl, rfl⟩
    obtain ⟨i0, hi, hz0, hz1, hz2⟩ := info_parts infoStr
    have m1 : 0 + ss.length ≤ maxLen := by unfold maxLen; omega
    have m2 : (0 + ss.length) * 16 ≤ 140737488355328 := by omega
    have m3 : ss.length + ss'.length ≤ maxLen := by unfold maxLen; omega
    have m4 : (ss.length + ss'.length) * 16 ≤ 140737488355328 := by omega
    have HB5 := Lib.hid (HB4.out.alloc HB4.out.size (.cells #[] 9))
    have R0 := Lib.hid (row_empty w4 w.heap.size HB4.out.size 9)
    have S1 := Lib.hid ((HA.out.below HB5.out).src (P := Try.prog) Try.underlying23 (one_S ss) cap)
    have R4 := Lib.hid (HR4.out.alloc (.cells #[] 9))
    have n4 : Hid (∀ g, (Value.slice a4 (ss.length + ss'.length) c4).ownBlock = some g → g < w4.heap.size) := HR4.out.blt
    go_wp2_with (first | (at_builtin; refine wpList_append_row_g _ (by rfl) (.tmp 68) (.tmp 69) 23 23 rfl w.heap.size 9 i0 (.string ByteArray.empty) 1 16 Try.underlying23 hi hz0 hz1 hz2 rfl _ _ _ R0.out rfl _ _ _ S1.out rfl m1 m2 HB5.out.size ?_; intro v6 w6 hrow6 hg6 hbk6; have hrow6' : Row w6 w.heap.size 1 v6 ss.length (ss.map S) := (by simpa using hrow6); have HROW6 := Lib.hid hrow6'; have HB6 := Lib.hid (HB5.out.grown hg6 HB5.out.size R0.out.blk); have HR46 := Lib.hid (R4.out.grown hg6 (other_block n4.out (own_new _ _ _))); have N6 := Lib.hid (own_next (W := w4) hbk6 (own_new _ _ _) (by simp)); have S2 := Lib.hid ((HA'.out.below HB6.out).src (P := Try.prog) Try.underlying23 (one_S ss') cap'); obtain ⟨a6, c6, rfl⟩ := hrow6'.shape; clear hrow6 hrow6' hg6 hbk6) | (at_builtin; refine wpList_append_row_g _ (by rfl) (.tmp 70) (.tmp 71) 23 23 rfl w.heap.size 9 i0 (.string ByteArray.empty) 1 16 Try.underlying23 hi hz0 hz1 hz2 rfl _ _ _ HROW6.out rfl _ _ _ S2.out rfl m3 m4 HB6.out.size ?_; intro v7 w7 hrow7 hg7 hbk7; have hrow7' : Row w7 w.heap.size 1 v7 (ss.length + ss'.length) ((ss ++ ss').map S) := (by simpa using hrow7); have HROW7 := Lib.hid hrow7'; have HB7 := Lib.hid (HB6.out.grown hg7 HB6.out.size HROW6.out.blk); have HR47 := Lib.hid (HR46.out.grown hg7 (other_block n4.out N6.out)); obtain ⟨a7, c7, rfl⟩ := hrow7'.shape; clear hrow7 hrow7' hg7 hbk7))
    refine (sameTexts_yes _ _ _ _ _ _ (ss ++ ss') (by have := len_tot1 ss; have := len_tot1 ss'; omega) HR47.out.rd HROW7.out.rd).mono ?_
    rintro e w8 ⟨rfl, mm, rfl⟩
    go_wp2
    go_ret
    exact ⟨rfl, below_drewN HB7.out _⟩
end Go.Proofs.Ytlmmhhbdibcijaa
