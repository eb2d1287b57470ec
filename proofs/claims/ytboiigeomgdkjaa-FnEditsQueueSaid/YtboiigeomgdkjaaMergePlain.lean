/-
  Plain facts on merging in place: the three ways of the merge, and what the search by halves leaves. No program.
-/
import Derived.Test.YtboiigeomgdkjaaEditPlain
set_option linter.unusedVariables false
namespace Go.Proofs.Ytboiigeomgdkjaa
section
variable {α : Type}
/-- what a sorting or merging step does to a row -/
def Sd (lt : α → α → Bool) (a b : Nat) (f g : Nat → α) : Prop := Mv a b f g ∧ Srt lt a b g ∧ (Srt lt a b f → g = f)
theorem upf_sd {lt : α → α → Bool} (O : Ord lt) {f : Nat → α} {a b i : Nat} (hab : a < b) (hs : Srt lt (a + 1) b f) (h1 : a + 1 ≤ i) (h2 : i ≤ b) (hl : ∀ k, a + 1 ≤ k → k < i → lt (f k) (f a) = true) (hr : i < b → lt (f i) (f a) = false) : Sd lt a b f (upf f a (i - 1)) := by
  refine ⟨?_, up_srt O hs h1 h2 hl hr, fun h => ?_⟩
  · have : ∀ q, a + q ≤ i - 1 → Mv a b f (upf f a (a + q)) := by
      intro q
      induction q with
      | zero => intro _; rw [Nat.add_zero, upf_zero]; exact Mv.refl _ _ _
      | succ q ih =>
        intro hq
        rw [← Nat.add_assoc, ← upf_succ f a (a + q) (by omega)]
        exact (ih (by omega)).trans (Mv.swap _ (by omega) (by omega) (by omega) (by omega))
    have := this (i - 1 - a) (by omega)
    rwa [show a + (i - 1 - a) = i - 1 by omega] at this
  · by_cases hi : i = a + 1
    · rw [hi, Nat.add_sub_cancel, upf_zero]
    · have e1 := hl (a + 1) (Nat.le_refl _) (by omega)
      rw [h a (a + 1) (Nat.le_refl _) (by omega) (by omega)] at e1
      cases e1
theorem dnf_sd {lt : α → α → Bool} (O : Ord lt) {f : Nat → α} {a m i : Nat} (hs : Srt lt a m f) (h1 : a ≤ i) (h2 : i ≤ m) (hl : a < i → lt (f m) (f (i - 1)) = false) (hr : ∀ k, i ≤ k → k < m → lt (f m) (f k) = true) : Sd lt a (m + 1) f (dnf f m i) := by
  refine ⟨?_, dn_srt O hs h1 h2 hl hr, fun h => ?_⟩
  · have : ∀ q, q ≤ m - i → Mv a (m + 1) f (dnf f m (m - q)) := by
      intro q
      induction q with
      | zero => intro _; rw [Nat.sub_zero, dnf_zero]; exact Mv.refl _ _ _
      | succ q ih =>
        intro hq
        rw [← Nat.sub_sub, ← dnf_succ f m (m - q) (by omega) (by omega)]
        exact (ih (by omega)).trans (Mv.swap _ (by omega) (by omega) (by omega) (by omega))
    have := this (m - i) (Nat.le_refl _)
    rwa [show m - (m - i) = i by omega] at this
  · by_cases hi : i = m
    · rw [hi, dnf_zero]
    · have e1 := hr i (Nat.le_refl _) (by omega)
      rw [h i m h1 (by omega) (by omega)] at e1
      cases e1
/-- what the search of the general way has found -/
structure Cut (lt : α → α → Bool) (f : Nat → α) (a m b mid s e : Nat) : Prop where
  as : a ≤ s
  sm : s ≤ m
  me : m ≤ e
  eb : e ≤ b
  sum : s + e = mid + m
  left : a < s → e < b → lt (f e) (f (s - 1)) = false
  right : s < m → m < e → lt (f (e - 1)) (f s) = true
theorem Cut.same {lt : α → α → Bool} {f : Nat → α} {a m b mid s e : Nat} (h : Cut lt f a m b mid s e) (hs : Srt lt a b f) : s = m ∨ m = e := by
  by_cases h1 : s < m
  · by_cases h2 : m < e
    · have e1 := h.right h1 h2
      have := h.as
      have := h.eb
      rw [hs s (e - 1) h.as (by omega) (by omega)] at e1
      cases e1
    · have := h.me; omega
  · have := h.sm; omega
theorem rot_mv {f : Nat → α} {a m b : Nat} (h1 : a ≤ m) (h2 : m ≤ b) : Mv a b f (rot f a m b) := by
  refine ⟨fun k => if k < a then k else if k < a + (b - m) then k + (m - a) else if k < b then k - (b - m) else k, fun k => if k < a then k else if k < m then k + (b - m) else if k < b then k - (m - a) else k, fun k => ?_, fun k => ?_, fun k => ?_, fun k hk => ?_⟩
  · unfold rot; dsimp only; repeat' split
    all_goals rfl
  · dsimp only; repeat' split
    all_goals omega
  · dsimp only; repeat' split
    all_goals omega
  · dsimp only; repeat' split
    all_goals omega
/-- the whole of the general way: rotate, and merge both parts -/
theorem Cut.whole {lt : α → α → Bool} (O : Ord lt) {f g1 g2 : Nat → α} {a m b mid s e : Nat} (h : Cut lt f a m b mid s e) (ham : a ≤ mid) (hmb : mid ≤ b) (hsm : s ≤ mid) (hme : mid ≤ e) (h1 : Srt lt a m f) (h2 : Srt lt m b f)
    (g1m : Mv a mid (rot f s m e) g1) (g1s : Srt lt a mid g1) (g1e : Srt lt a mid (rot f s m e) → g1 = rot f s m e)
    (g2m : Mv mid b g1 g2) (g2s : Srt lt mid b g2) (g2e : Srt lt mid b g1 → g2 = g1) : Sd lt a b f g2 := by
  have h3 := (merge_step O (Nat.le_trans h.as h.sm) (Nat.le_trans h.me h.eb) h1 h2 h.as h.sm h.me h.eb h.sum h.left h.right).2.2.2.2
  refine ⟨?_, ?_, fun hs => ?_⟩
  · exact (((rot_mv h.sm h.me).mono h.as h.eb).trans (g1m.mono (Nat.le_refl _) hmb)).trans (g2m.mono ham (Nat.le_refl _))
  · refine halves (g1s.congr fun k _ hk => g2m.out (.inl hk)) g2s fun x y hx hxm hy hyb => ?_
    rw [g2m.out (.inl hxm)]
    have c1 : ∀ y, mid ≤ y → y < b → lt (g1 y) (g1 x) = false := fun y hy hyb => by
      rw [g1m.out (.inr hy)]
      exact g1m.all (p := fun z => lt (rot f s m e y) z = false) (fun k hk hk2 => h3 k y hk hk2 hy hyb) x hx hxm
    exact g2m.all (p := fun z => lt z (g1 x) = false) c1 y hy hyb
  · have hr := h.same hs
    have e0 : rot f s m e = f := rot_none f s m e hr h.sm h.me
    rw [e0] at g1e
    have e1 := g1e (hs.sub (Nat.le_refl _) hmb)
    rw [e1] at g2e
    exact g2e (hs.sub ham (Nat.le_refl _))
/-- the part of the row ahead of the middle is sorted where there is nothing to merge -/
theorem Cut.first {lt : α → α → Bool} (O : Ord lt) {f : Nat → α} {a m b mid s e : Nat} (h : Cut lt f a m b mid s e) (h1 : Srt lt a m f) (h2 : Srt lt m b f) : Srt lt a s (rot f s m e) ∧ Srt lt s mid (rot f s m e) ∧ Srt lt mid e (rot f s m e) ∧ Srt lt e b (rot f s m e) :=
  have h3 := merge_step O (Nat.le_trans h.as h.sm) (Nat.le_trans h.me h.eb) h1 h2 h.as h.sm h.me h.eb h.sum h.left h.right
  ⟨h3.1, h3.2.1, h3.2.2.1, h3.2.2.2.1⟩
theorem Sd.none {lt : α → α → Bool} {a b : Nat} {f : Nat → α} (h : Srt lt a b f) : Sd lt a b f f := ⟨Mv.refl _ _ _, h, fun _ => rfl⟩
end
section
/-- the search by halves: P holds of what lies ahead of i, and not of what lies from j on -/
def Sea (P : Nat → Bool) (lo hi i j : Nat) : Prop := lo ≤ i ∧ i ≤ j ∧ j ≤ hi ∧ (i = lo ∨ P (i - 1) = true) ∧ (j = hi ∨ P j = false)
theorem Sea.start {P : Nat → Bool} {lo hi : Nat} (h : lo ≤ hi) : Sea P lo hi lo hi := ⟨Nat.le_refl _, h, Nat.le_refl _, .inl rfl, .inl rfl⟩
theorem Sea.up {P : Nat → Bool} {lo hi i j h : Nat} (hs : Sea P lo hi i j) (h1 : i ≤ h) (h2 : h < j) (hp : P h = true) : Sea P lo hi (h + 1) j := by
  obtain ⟨a, b, c, d, e⟩ := hs
  exact ⟨by omega, by omega, c, .inr (by rw [Nat.add_sub_cancel]; exact hp), e⟩
theorem Sea.down {P : Nat → Bool} {lo hi i j h : Nat} (hs : Sea P lo hi i j) (h1 : i ≤ h) (h2 : h < j) (hp : P h = false) : Sea P lo hi i h := by
  obtain ⟨a, b, c, d, e⟩ := hs
  exact ⟨a, h1, by omega, d, .inr hp⟩
variable {α : Type} {lt : α → α → Bool}
theorem Sea.upf_end (O : Ord lt) {f : Nat → α} {a b i : Nat} (hab : a + 1 < b) (hs : Srt lt (a + 1) b f) (h : Sea (fun k => lt (f k) (f a)) (a + 1) b i i) : Sd lt a b f (upf f a (i - 1)) := by
  obtain ⟨h1, _, h2, h3, h4⟩ := h
  refine upf_sd O (by omega) hs h1 h2 (fun k hk hk2 => ?_) (fun hi => ?_)
  · rcases h3 with h3 | h3
    · omega
    · cases hc : lt (f k) (f a) with
      | true => rfl
      | false => dsimp only at h3; rw [O.ntrans _ _ _ (hs.le O hk (show k ≤ i - 1 by omega) (by omega)) hc] at h3; cases h3
  · rcases h4 with h4 | h4
    · omega
    · exact h4
theorem Sea.dnf_end (O : Ord lt) {f : Nat → α} {a m i : Nat} (hs : Srt lt a m f) (h : Sea (fun k => !lt (f m) (f k)) a m i i) : Sd lt a (m + 1) f (dnf f m i) := by
  obtain ⟨h1, _, h2, h3, h4⟩ := h
  refine dnf_sd O hs h1 h2 (fun hi => ?_) (fun k hk hk2 => ?_)
  · rcases h3 with h3 | h3
    · omega
    · simpa using h3
  · rcases h4 with h4 | h4
    · omega
    · simp at h4
      cases hc : lt (f m) (f k) with
      | true => rfl
      | false => rw [O.ntrans _ _ _ hc (hs.le O h1 hk hk2)] at h4; cases h4
theorem Sea.cut_lo {f : Nat → α} {a m b mid s : Nat} (ham : a < m) (hmb : m < b) (hmid : mid = (a + b) / 2) (hm : m ≤ mid) (h : Sea (fun k => !lt (f (mid + m - 1 - k)) (f k)) a m s s) : Cut lt f a m b mid s (mid + m - s) := by
  obtain ⟨h1, _, h2, h3, h4⟩ := h
  refine ⟨h1, h2, by omega, by omega, by omega, fun ha hb => ?_, fun hs he => ?_⟩
  · rcases h3 with h3 | h3
    · omega
    · dsimp only at h3; rw [show mid + m - 1 - (s - 1) = mid + m - s by omega] at h3; simpa using h3
  · rcases h4 with h4 | h4
    · omega
    · dsimp only at h4; rw [show mid + m - 1 - s = mid + m - s - 1 by omega] at h4; simpa using h4
theorem Sea.cut_hi {f : Nat → α} {a m b mid s : Nat} (ham : a < m) (hmb : m < b) (hmid : mid = (a + b) / 2) (hm : mid < m) (h : Sea (fun k => !lt (f (mid + m - 1 - k)) (f k)) (mid + m - b) mid s s) : Cut lt f a m b mid s (mid + m - s) := by
  obtain ⟨h1, _, h2, h3, h4⟩ := h
  refine ⟨by omega, by omega, by omega, by omega, by omega, fun ha hb => ?_, fun hs he => ?_⟩
  · rcases h3 with h3 | h3
    · omega
    · dsimp only at h3; rw [show mid + m - 1 - (s - 1) = mid + m - s by omega] at h3; simpa using h3
  · rcases h4 with h4 | h4
    · omega
    · dsimp only at h4; rw [show mid + m - 1 - s = mid + m - s - 1 by omega] at h4; simpa using h4
end
end Go.Proofs.Ytboiigeomgdkjaa
