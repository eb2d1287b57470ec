/-
  Plain laws on patterns with something ahead of them or behind them. No walk.
-/
import Derived.Test.YtnjdckhaecdldaaPatLaws
set_option linter.unusedVariables false
namespace Go.Proofs.Ytnjdckhaecdldaa
open Go.RowKit Go.PlainAid

theorem read_turned {l : Bs} {p : Pat} (h : ReadOk l p) (hd : p.disable = false) (hv : p.visible = false) : ReadOk (33 :: l) ⟨true, false, p.all, p.terms⟩ := by
  rcases h with ⟨r, _, hv', _⟩ | ⟨_, h⟩
  · rw [hv] at hv'; cases hv'
  · rcases h with ⟨_, hd', _⟩ | ⟨_, _, hd', _⟩ | ⟨_, h⟩
    · rw [hd] at hd'; cases hd'
    · rw [hd] at hd'; cases hd'
    · exact .inr ⟨rfl, .inr (.inl ⟨l, rfl, rfl, h⟩)⟩
theorem read_visible {l : Bs} {p : Pat} (h : ReadOk l p) (hv : p.visible = false) : ReadOk (118 :: l) ⟨p.disable, true, p.all, p.terms⟩ := by
  rcases h with ⟨r, _, hv', _⟩ | ⟨_, h⟩
  · rw [hv] at hv'; cases hv'
  · exact .inl ⟨l, rfl, rfl, h⟩
/-- a pattern that begins with a bit string or a sign -/
theorem read_plain {c : UInt8} {r : Bs} {p : Pat} (h : ReadOk (c :: r) p) (hc : c = 121 ∨ c = 48 ∨ c = 49 ∨ c = 43 ∨ c = 45) : p.visible = false ∧ p.disable = false ∧ ReadTerms (c :: r) p.all p.terms := by
  rcases h with ⟨r', h, _⟩ | ⟨hv, h⟩
  · cases h; simp at hc
  · rcases h with ⟨h, _⟩ | ⟨r', h, _⟩ | ⟨hd, h⟩
    · cases h; simp at hc
    · cases h; simp at hc
    · exact ⟨hv, hd, h⟩
theorem read_bits_first {b r : Bs} (hb : isBitsL b) {p : Pat} (h : ReadOk (b ++ r) p) : p.visible = false ∧ p.disable = false ∧ p.all = false ∧ Terms true (b ++ r) p.terms := by
  obtain ⟨c, b', rfl, hc⟩ := bits_head hb
  obtain ⟨h1, h2, h3⟩ := read_plain (c := c) (r := b' ++ r) h (by rcases hc with h | h | h <;> simp [h])
  refine ⟨h1, h2, ?_⟩
  rcases h3 with ⟨_, h, _⟩ | ⟨_, h, _⟩ | h
  · cases h; simp at hc
  · cases h; simp at hc
  · exact h
theorem read_minus {s : Bs} {p : Pat} (h : ReadOk (45 :: s) p) : p.visible = false ∧ p.disable = false ∧ p.all = true ∧ Terms false s p.terms := by
  obtain ⟨h1, h2, h3⟩ := read_plain h (by simp)
  refine ⟨h1, h2, ?_⟩
  rcases h3 with ⟨_, h, _⟩ | ⟨r, h, ha, ht⟩ | ⟨_, h⟩
  · cases h
  · cases h; exact ⟨ha, ht⟩
  · obtain ⟨c, r, h, hc⟩ := terms_head h
    cases h; simp at hc
theorem judge_terms {s : Bs} {all : Bool} {ts : List (Bs × Bool)} (h : ReadTerms s all ts) (N : Nat) (hN : N < 18446744073709551616) : judge s (N : Int) = ⟨true, false, holdsTo (N : Int) all ts, holdsTo (N : Int) all ts, true⟩ := by
  have := judge_read (p := ⟨false, false, all, ts⟩) (.inr ⟨rfl, .inr (.inr ⟨rfl, h⟩)⟩) N hN
  simpa using this
theorem lead_plus {b r : Bs} (hb : isBitsL b) {p : Pat} (h : ReadOk (b ++ r) p) (N : Nat) (hN : N < 18446744073709551616) : judge (43 :: (b ++ r)) (N : Int) = judge (b ++ r) (N : Int) := by
  obtain ⟨_, _, _, h⟩ := read_bits_first hb h
  rw [judge_terms (.inr (.inr ⟨rfl, h⟩)) N hN, judge_terms (s := 43 :: (b ++ r)) (.inl ⟨_, rfl, rfl, h⟩) N hN]
theorem lead_minus {s : Bs} {p : Pat} (h : ReadOk (45 :: s) p) (N : Nat) (hN : N < 18446744073709551616) : judge (121 :: 45 :: s) (N : Int) = judge (45 :: s) (N : Int) := by
  obtain ⟨_, _, _, h⟩ := read_minus h
  have h2 : Terms true ([121] ++ 45 :: s) (([121], true) :: p.terms) := .more (.inl rfl) (.inr rfl) (fun _ => rfl) h
  have e1 := judge_terms (s := 121 :: 45 :: s) (.inr (.inr ⟨rfl, h2⟩)) N hN
  have e2 := judge_terms (s := 45 :: s) (.inr (.inl ⟨_, rfl, rfl, h⟩)) N hN
  rw [e1, e2]
  simp [holdsTo, endsB_y]
/-- what New makes of a pattern with a sign behind it: it goes on at the sign, or refuses it -/
theorem run_app {s r : Bs} {all : Bool} {ts : List (Bs × Bool)} (h : ReadTerms s all ts) (hr : signed r) : ∃ b a l, isBitsL b ∧ runP (s ++ r) st0 = runP r (.with a b l) ∧ ((45 : UInt8) ∈ s → a = false) := by
  rcases h with ⟨x, rfl, rfl, h⟩ | ⟨x, rfl, rfl, h⟩ | ⟨rfl, h⟩
  · obtain ⟨b, a, ts0, _, hb, hrun, _, hm⟩ := run_terms h true (allL false) r hr
    exact ⟨b, a, _, hb, by rw [List.cons_append, run_first 43 (.inl rfl)]; exact hrun, fun h => hm (by simpa using h)⟩
  · obtain ⟨b, a, ts0, _, hb, hrun, hf, hm⟩ := run_terms h true (allL true) r hr
    exact ⟨b, a, _, hb, by rw [List.cons_append, run_first 45 (.inr rfl)]; exact hrun, fun _ => hf rfl⟩
  · obtain ⟨b, a, ts0, _, hb, hrun, _, hm⟩ := run_terms h false [] r hr
    exact ⟨b, a, _, hb, hrun, hm⟩
theorem main_none {p : Bs} (h1 : p ≠ [110]) (h : runP p st0 = none) (v q e : Bool) : mainL p v q e = none := by rw [mainL, if_neg h1, h]; rfl
theorem app_ne {s r : Bs} (hs : s ≠ []) (hr : r ≠ []) : s ++ r ≠ [110] := by
  intro h
  have := congrArg List.length h
  cases s with
  | nil => exact hs rfl
  | cons a s => cases r with
    | nil => exact hr rfl
    | cons b r => simp at this
theorem pref_none {s r : Bs} (hr : r ≠ []) {d all : Bool} {ts : List (Bs × Bool)} (h : ReadBody s d all ts) (hn : ∀ x, (x = s ∨ 33 :: x = s) → ReadTerms x all ts → runP (x ++ r) st0 = none) (v q : Bool) : prefN (s ++ r) v q = none := by
  rcases h with ⟨rfl, _⟩ | ⟨x, rfl, _, h⟩ | ⟨_, h⟩
  · rw [List.cons_append, prefN, dropN_head _ (by decide)]
    refine main_none (app_ne (s := [110]) (by simp) hr) ?_ v q true
    rfl
  · obtain ⟨c, y, hx, hc⟩ := readTerms_head h
    have hm := main_none (app_ne (s := x) (by rw [hx]; simp) hr) (hn x (.inr rfl) h) v q false
    rw [hx] at hm ⊢
    rw [prefN, List.cons_append, dropN]
    simp only [beq_self_eq_true, if_true, List.cons_append, List.isEmpty_cons, Bool.false_eq_true, if_false]
    rw [dropN_head _ (by rcases hc with h | h | h | h | h <;> simp [h])]
    exact hm
  · obtain ⟨c, y, hx, hc⟩ := readTerms_head h
    have hm := main_none (app_ne (s := s) (by rw [hx]; simp) hr) (hn s (.inl rfl) h) v q true
    rw [hx] at hm ⊢
    rw [prefN, List.cons_append, dropN_head _ (by rcases hc with h | h | h | h | h <;> simp [h])]
    exact hm
theorem new_none {s r : Bs} (hr : r ≠ []) {p : Pat} (h : ReadOk s p) (hn : ∀ x all ts, (∃ y, s = y ++ x) → ReadTerms x all ts → ((45 : UInt8) ∈ s → (45 : UInt8) ∈ x) → runP (x ++ r) st0 = none) : newL (s ++ r) = none := by
  rcases h with ⟨x, rfl, _, h⟩ | ⟨_, h⟩
  · have hp := fun v q => pref_none hr h (fun y hy ht => hn y _ _ (by
      rcases hy with rfl | rfl
      · exact ⟨[118], rfl⟩
      · exact ⟨[118, 33], rfl⟩) ht (fun hm => by
      rcases hy with rfl | rfl
      · simpa using hm
      · simpa using hm)) v q
    obtain ⟨c, y, hx, hc⟩ := body_head h
    rw [hx] at hp ⊢
    rw [List.cons_append, newL, if_neg (by decide), prefV, dropV]
    simp only [beq_self_eq_true, if_true, List.cons_append, List.isEmpty_cons, Bool.false_eq_true, if_false]
    rw [dropV_head _ _ (by rcases hc with h | h | h | h | h | h | h <;> simp [h])]
    exact hp true false
  · have hp := fun v q => pref_none hr h (fun y hy ht => hn y _ _ (by
      rcases hy with rfl | rfl
      · exact ⟨[], rfl⟩
      · exact ⟨[33], rfl⟩) ht (fun hm => by
      rcases hy with rfl | rfl
      · exact hm
      · simpa using hm)) v q
    obtain ⟨c, y, hx, hc⟩ := body_head h
    rw [hx] at hp ⊢
    rw [List.cons_append, newL, if_neg (by rcases hc with h | h | h | h | h | h | h <;> simp [h]), prefV, dropV_head _ _ (by rcases hc with h | h | h | h | h | h | h <;> simp [h])]
    exact hp false false
theorem judge_none {l : Bs} (h0 : l ≠ []) (h : newL l = none) (id : Int) : judge l id = ⟨false, false, false, false, false⟩ := by
  cases l with
  | nil => exact absurd rfl h0
  | cons a l => rw [judge, h]; rfl
/-- a + behind a - -/
theorem late {s b : Bs} {p : Pat} (h : ReadOk s p) (hm : (45 : UInt8) ∈ s) (id : Int) : judge (s ++ 43 :: b) id = ⟨false, false, false, false, false⟩ := by
  refine judge_none (by simp) (new_none (by simp) h fun x all ts _ ht hx => ?_) id
  obtain ⟨b2, a, l, hb2, hrun, ha⟩ := run_app ht (r := 43 :: b) (.inr ⟨43, b, rfl, .inl rfl⟩)
  rw [hrun, runP, step_sign hb2 43 (.inl rfl), ha (hx hm)]
  rfl
theorem empty_sign {s b : Bs} {p : Pat} (h : ReadOk s p) (hb : b = [] ∨ ∃ y, b = 45 :: y) (id : Int) : judge (s ++ 45 :: b) id = ⟨false, false, false, false, false⟩ := by
  refine judge_none (by simp) (new_none (by simp) h fun x all ts _ ht hx => ?_) id
  obtain ⟨b2, a, l, hb2, hrun, ha⟩ := run_app ht (r := 45 :: b) (.inr ⟨45, b, rfl, .inr rfl⟩)
  rw [hrun, runP, step_sign hb2 45 (.inr rfl)]
  rcases hb with rfl | ⟨y, rfl⟩ <;> cases a <;> rfl
theorem field3 (w : World) (a b c d e : Bool) : Sem.run Try.prog (Instr.field 35 (.agg #[.bool a, .bool b, .bool c, .bool d, .bool e]) 3) w = .ok (.bool d) w := by kernel_rfl
theorem field0 (w : World) (a b c d e : Bool) : Sem.run Try.prog (Instr.field 35 (.agg #[.bool a, .bool b, .bool c, .bool d, .bool e]) 0) w = .ok (.bool a) w := by kernel_rfl
end Go.Proofs.Ytnjdckhaecdldaa
