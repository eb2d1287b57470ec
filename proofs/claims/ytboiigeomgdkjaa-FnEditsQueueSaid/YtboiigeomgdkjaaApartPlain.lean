/-
  Plain facts: edits that lie apart make one text, in whatever order they stand. No program in sight.
-/
import Derived.Test.YtboiigeomgdkjaaApplied
set_option linter.unusedVariables false
namespace Go.Proofs.Ytboiigeomgdkjaa
open Go.RowKit Go.PlainAid Go.Lib

theorem find_place (z : St) (l : List St) : ∀ q, q ≤ l.length → (∀ x, q ≤ x → x < l.length → ltS z (fnl l x) = true) → ∃ p, p ≤ l.length ∧ (0 < p → ltS z (fnl l (p - 1)) = false) ∧ ∀ x, p ≤ x → x < l.length → ltS z (fnl l x) = true := by
  intro q
  induction q with
  | zero => intro h1 h2; exact ⟨0, h1, fun h => absurd h (by omega), h2⟩
  | succ q ih =>
    intro h1 h2
    cases hc : ltS z (fnl l q) with
    | false => exact ⟨q + 1, h1, fun _ => by rw [Nat.add_sub_cancel]; exact hc, h2⟩
    | true => exact ih (by omega) (fun x hx hx2 => by
        by_cases he : x = q
        · subst he; exact hc
        · exact h2 x (by omega) hx2)
theorem some_order (ss : List St) : ∃ l : List St, l.length = ss.length ∧ Mv 0 ss.length (fnl ss) (fnl l) ∧ Srt ltS 0 l.length (fnl l) := by
  have : ∀ k, k ≤ ss.length → ∃ l : List St, l.length = (ss.take k).length ∧ Mv 0 (ss.take k).length (fnl (ss.take k)) (fnl l) ∧ Srt ltS 0 l.length (fnl l) := by
    intro k
    induction k with
    | zero => intro _; exact ⟨[], by simp, by simpa using Mv.refl _ _ _, fun i j _ _ h => by simp at h⟩
    | succ k ih =>
      intro hk
      obtain ⟨l, h1, h2, h3⟩ := ih (by omega)
      obtain ⟨p, p1, p2, p3⟩ := find_place ss[k] l l.length (Nat.le_refl _) (fun x a b => by omega)
      have hok := insL_ok (m := ss.take k) (z := ss[k]) h1 h2 h3 p1 p2 p3
      refine ⟨insL l ss[k] p, ?_, ?_, hok.2⟩
      · simp only [insL, tab_len, h1, List.length_take]; omega
      · rw [List.take_succ_eq_append_getElem hk]; exact hok.1
  have h := this ss.length (Nat.le_refl _)
  rwa [List.take_length] at h
theorem aprt_text {d : ByteArray} {ss : List St} (hA : Aprt ss d.size) : ∃ T, Txt d ss T := by
  obtain ⟨l, h1, h2, h3⟩ := some_order ss
  have hin := mem_fnl hA.1
  have s1 := srtS_le h3
  rw [h1] at s1
  refine ⟨finK (fnl l) (L d) ss.length, fun g hg hs => ⟨?_, one_order hin hA.2 hg h2 hs s1 (L d)⟩⟩
  exact chn_of (hg.all2 (Nat.le_refl _) hin) (hg.pair hA.2) hs
/-- lists that hold the same edits -/
theorem txt_mv {d : ByteArray} {ss l : List St} {T : Bs} (hl : l.length = ss.length) (hm : Mv 0 ss.length (fnl ss) (fnl l)) (h : Txt d ss T) : Txt d l T := by
  intro g hg hs
  rw [hl] at hg hs ⊢
  exact h g (hm.trans hg) hs
theorem mem_mv {ss l : List St} {p : St → Prop} (hl : l.length = ss.length) (hm : Mv 0 ss.length (fnl ss) (fnl l)) (h : ∀ z ∈ ss, p z) : ∀ z ∈ l, p z := by
  intro z hz
  obtain ⟨k, hk, rfl⟩ := List.mem_iff_getElem.1 hz
  have := hm.all2 (p := p) (Nat.le_refl _) (mem_fnl h) k (by omega)
  rwa [fnl_at _ hk] at this
theorem good_txt {d : ByteArray} {ss : List St} {T : Bs} (hd : d.size ≤ 4294967296) (hl : ss.length ≤ 1000000) (hin : ∀ z ∈ ss, inN d.size z) (hM : ∀ z ∈ ss, z.2.2.size ≤ 1000000) (h : Txt d ss T) : Good d ss T :=
  ⟨hd, by omega, hin, ⟨1000000, hM, by omega⟩, fun g hg => h g hg.1 (srtE_le hg.2.1)⟩
theorem rev_mv (ss : List St) : Mv 0 ss.length (fnl ss) (fnl ss.reverse) := by
  have h := Mv.rev (n := ss.length) (fnl ss)
  have e : (fun k => if k < ss.length then fnl ss (ss.length - 1 - k) else fnl ss k) = fnl ss.reverse := by
    funext k
    split
    · rename_i hk
      rw [fnl_at _ (by omega), fnl_at _ (by simpa using hk), List.getElem_reverse]
    · rename_i hk
      rw [fnl_out _ (by omega), fnl_out _ (by simp; omega)]
  rwa [e] at h
theorem mv_app {l m : List St} (r : List St) (hl : l.length = m.length) (h : Mv 0 m.length (fnl m) (fnl l)) : Mv 0 (m ++ r).length (fnl (m ++ r)) (fnl (l ++ r)) := by
  obtain ⟨s, t, e1, e2, e3, e4⟩ := h
  refine ⟨s, t, fun x => ?_, e2, e3, fun x hx => e4 x (by simp at hx; omega)⟩
  by_cases hx : x < m.length
  · have := (Mv.inside e3 e4 (Nat.zero_le _) hx).2
    rw [fnl_append, fnl_append, if_pos (by omega), if_pos this, e1]
  · rw [e4 x (by omega), fnl_append, fnl_append, if_neg (by omega), if_neg (by omega), hl]
theorem aprt_left {s1 s2 : List St} {n : Nat} (h : Aprt (s1 ++ s2) n) : Aprt s1 n := by
  refine ⟨fun z hz => h.1 z (List.mem_append_left _ hz), fun i j hi hj hij => ?_⟩
  have := h.2 i j (by simp; omega) (by simp; omega) hij
  rwa [fnl_append, fnl_append, if_pos hi, if_pos hj] at this
theorem fnl_tab_mv {ss : List St} {g : Nat → St} (h : Mv 0 ss.length (fnl ss) g) : fnl (tab g ss.length) = g := fnl_tab_all fun x hx => by rw [h.out (.inr hx)]; exact fnl_out _ hx
/-- the second part of EditedTwice -/
theorem good_twice {d : ByteArray} {s1 s2 : List St} {T : Bs} (hd : d.size ≤ 4294967296) (hl : (s1 ++ s2).length ≤ 1000000) (hin : ∀ z ∈ s1 ++ s2, inN d.size z) (hM : ∀ z ∈ s1 ++ s2, z.2.2.size ≤ 1000000) (h : Txt d (s1 ++ s2) T) (g : Nat → St) (hg : Sd ltE 0 s1.length (fnl s1) g) : Good d (tab g s1.length ++ s2) T := by
  have h1 : (tab g s1.length).length = s1.length := tab_len _ _
  have hm := mv_app s2 h1 (by rw [fnl_tab_mv hg.1]; exact hg.1)
  have hln : (tab g s1.length ++ s2).length = (s1 ++ s2).length := by rw [List.length_append, List.length_append, h1]
  exact good_txt hd (by omega) (mem_mv hln hm hin) (mem_mv hln hm hM) (txt_mv hln hm h)
end Go.Proofs.Ytboiigeomgdkjaa
