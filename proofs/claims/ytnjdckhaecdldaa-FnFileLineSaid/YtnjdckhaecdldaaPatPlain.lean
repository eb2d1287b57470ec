/-
  Plain laws on patterns: a machine that mirrors how bisect.New reads a text, the form of a documented pattern, and that the machine makes of such a one its conditions. No program in sight.
-/
import Derived.Test.YtnjdckhaecdldaaBytes
namespace Go.Proofs.Ytnjdckhaecdldaa
open Go.PlainAid

abbrev Bs := List UInt8

structure Cond where
  mask : Int
  bits : Int
  res : Bool
/-- the machine's state: what is read of the bit string at hand is seg -/
structure PSt where
  res : Bool
  bits : Int
  seg : Bs
  wid : Nat
  pos : Bool
  list : List Cond
def isDig (c : UInt8) : Bool := c == 50 || c == 51 || c == 52 || c == 53 || c == 54 || c == 55 || c == 56 || c == 57
def isHexL (c : UInt8) : Bool := c == 97 || c == 98 || c == 99 || c == 100 || c == 101 || c == 102 || c == 65 || c == 66 || c == 67 || c == 68 || c == 69 || c == 70
def hexVal (c : UInt8) : Int := if 97 ≤ c.toNat then (c.toNat : Int) - 87 else (c.toNat : Int) - 55
def pushI (b : Int) (wid : Nat) (d : Int) : Int := bits .or .u64 (IntKind.u64.wrap (b * 2 ^ wid)) d
def PSt.push (st : PSt) (c : UInt8) (d : Int) : PSt := { st with bits := pushI st.bits st.wid d, seg := st.seg ++ [c], pos := true }
def maskI (n : Nat) : Int := 2 ^ n - 1
def PSt.cond (st : PSt) : Cond := ⟨if st.seg.head? = some 121 then 0 else maskI (st.seg.length * st.wid), st.bits, st.res⟩
def PSt.fresh (_st : PSt) (c : UInt8) (l : List Cond) : PSt := { res := c == 43, bits := 0, seg := [], wid := 1, pos := true, list := l }
def stepP (c : UInt8) (nxt : Option UInt8) (st : PSt) : Option PSt :=
  if st.seg.isEmpty && st.wid == 1 && c == 120 then some { st with wid := 4, pos := true }
  else if isDig c then (if st.wid == 4 then some (st.push c ((c.toNat : Int) - 48)) else none)
  else if c == 48 || c == 49 then some (st.push c ((c.toNat : Int) - 48))
  else if isHexL c then (if st.wid == 4 then some (st.push c (hexVal c)) else none)
  else if c == 121 then (if nxt == some 48 || nxt == some 49 then none else some { st with bits := 0, seg := st.seg ++ [c], pos := true })
  else if c == 43 || c == 45 then
    (if c == 43 && !st.res then none
     else if st.pos then (if decide (64 < st.seg.length * st.wid) || st.seg.isEmpty then none else some (st.fresh c (st.list ++ [st.cond])))
     else some (st.fresh c (if c == 45 then st.list ++ [⟨0, 0, true⟩] else st.list)))
  else none
def runP : Bs → PSt → Option PSt
  | [], st => stepP 45 none st
  | c :: r, st => (stepP c r.head? st).bind (runP r)
def st0 : PSt := { res := true, bits := 0, seg := [], wid := 1, pos := false, list := [] }

/-- the prefixes -/
def dropV : Bs → Bool → Bool → Option (Bs × Bool × Bool)
  | [], v, q => some ([], v, q)
  | c :: r, v, q => if c == 118 then (if r.isEmpty then none else dropV r true false) else some (c :: r, v, q)
def dropN : Bs → Bool → Option (Bs × Bool)
  | [], e => some ([], e)
  | c :: r, e => if c == 33 then (if r.isEmpty then none else dropN r (!e)) else some (c :: r, e)
structure Mat where
  verbose : Bool
  quiet : Bool
  enable : Bool
  list : List Cond
def mainL (p : Bs) (v q e : Bool) : Option Mat :=
  if p = [110] then (runP [121] st0).map fun st => ⟨v, q, !e, st.list⟩ else (runP p st0).map fun st => ⟨v, q, e, st.list⟩
def prefN (p : Bs) (v q : Bool) : Option Mat := (dropN p true).bind fun x => mainL x.1 v q x.2
def prefV (p : Bs) (q : Bool) : Option Mat := (dropV p false q).bind fun x => prefN x.1 x.2.1 x.2.2
/-- what New makes of a text that is not empty: nothing (it is refused), or a matcher -/
def newL : Bs → Option Mat
  | [] => none
  | c :: r => if c == 113 then (if r.isEmpty then none else prefV r true) else prefV (c :: r) false

/-- the form of a documented pattern -/
def isBitsL (b : Bs) : Prop := b = [121] ∨ (1 ≤ b.length ∧ b.length ≤ 60 ∧ ∀ c ∈ b, c = 48 ∨ c = 49)
inductive Terms : Bool → Bs → List (Bs × Bool) → Prop
  | last {add : Bool} {b : Bs} (h : isBitsL b) : Terms add b [(b, add)]
  | more {add : Bool} {b r : Bs} {c : UInt8} {ts : List (Bs × Bool)} (h : isBitsL b) (hc : c = 43 ∨ c = 45) (ha : c = 43 → add = true) (hr : Terms (c == 43) r ts) : Terms add (b ++ c :: r) ((b, add) :: ts)
structure Pat where
  disable : Bool
  visible : Bool
  all : Bool
  terms : List (Bs × Bool)
def ReadTerms (s : Bs) (all : Bool) (ts : List (Bs × Bool)) : Prop :=
  (∃ r, s = 43 :: r ∧ all = false ∧ Terms true r ts) ∨ (∃ r, s = 45 :: r ∧ all = true ∧ Terms false r ts) ∨ (all = false ∧ Terms true s ts)
def ReadBody (s : Bs) (d all : Bool) (ts : List (Bs × Bool)) : Prop :=
  (s = [110] ∧ d = true ∧ all = false ∧ ts = [([121], true)]) ∨ (∃ r, s = 33 :: r ∧ d = true ∧ ReadTerms r all ts) ∨ (d = false ∧ ReadTerms s all ts)
def ReadOk (s : Bs) (p : Pat) : Prop :=
  (∃ r, s = 118 :: r ∧ p.visible = true ∧ ReadBody r p.disable p.all p.terms) ∨ (p.visible = false ∧ ReadBody s p.disable p.all p.terms)

/-- what the machine makes of a bit string -/
def valB (b : Bs) : Int := b.foldl (fun v c => pushI v 1 ((c.toNat : Int) - 48)) 0
def condOf (t : Bs × Bool) : Cond := if t.1 = [121] then ⟨0, 0, t.2⟩ else ⟨maskI t.1.length, valB t.1, t.2⟩
def PSt.bare (add pos : Bool) (l : List Cond) : PSt := { res := add, bits := 0, seg := [], wid := 1, pos := pos, list := l }
def PSt.with (add : Bool) (b : Bs) (l : List Cond) : PSt := { res := add, bits := if b = [121] then 0 else valB b, seg := b, wid := 1, pos := true, list := l }

def signed (r : Bs) : Prop := r = [] ∨ ∃ c r', r = c :: r' ∧ (c = 43 ∨ c = 45)

theorem step_bin (c : UInt8) (nxt : Option UInt8) (st : PSt) (hc : c = 48 ∨ c = 49) : stepP c nxt st = some (st.push c ((c.toNat : Int) - 48)) := by
  rcases hc with rfl | rfl <;> simp [stepP, isDig]
theorem run_bin : ∀ (b r : Bs) (st : PSt), st.wid = 1 → (∀ c ∈ b, c = 48 ∨ c = 49) → b ≠ [] →
    runP (b ++ r) st = runP r { st with bits := b.foldl (fun v c => pushI v 1 ((c.toNat : Int) - 48)) st.bits, seg := st.seg ++ b, pos := true }
  | [], _, _, _, _, h => absurd rfl h
  | [c], r, st, hw, hb, _ => by
    rw [List.singleton_append, runP, step_bin c _ st (hb c (by simp)), Option.bind_some]
    simp [PSt.push, hw]
  | c :: d :: b, r, st, hw, hb, _ => by
    rw [List.cons_append, runP, step_bin c _ st (hb c (by simp)), Option.bind_some,
      run_bin (d :: b) r (st.push c ((c.toNat : Int) - 48)) hw (fun x hx => hb x (by simp at hx ⊢; exact .inr hx)) (by simp)]
    simp [PSt.push, hw]
theorem isBits_ne {b : Bs} (h : isBitsL b) : b ≠ [] := by
  rintro rfl
  rcases h with h | h
  · cases h
  · simp at h
theorem isBits_len {b : Bs} (h : isBitsL b) : 1 ≤ b.length ∧ b.length ≤ 60 := by
  rcases h with rfl | h
  · simp
  · exact ⟨h.1, h.2.1⟩
theorem run_bits {b r : Bs} (hb : isBitsL b) (hr : signed r) (add pos : Bool) (l : List Cond) : runP (b ++ r) (.bare add pos l) = runP r (.with add b l) := by
  rcases hb with rfl | ⟨h1, h2, h3⟩
  · have hn : (r.head? == some 48 || r.head? == some 49) = false := by
      rcases hr with rfl | ⟨c, r', rfl, hc⟩
      · rfl
      · rcases hc with rfl | rfl <;> rfl
    rw [List.singleton_append, runP, stepP]
    simp [PSt.bare, isDig, isHexL, PSt.with]
    simp at hn
    simp [hn]
  · have hne : b ≠ [121] := by
      rintro rfl; have := h3 121 (by simp); simp at this
    rw [run_bin b r _ rfl h3 (fun e => by rw [e] at h1; simp at h1)]
    simp [PSt.bare, PSt.with, hne, valB]
/-- at a sign (or at the end) behind a bit string -/
theorem step_sign {b : Bs} (hb : isBitsL b) (c : UInt8) (hc : c = 43 ∨ c = 45) (nxt : Option UInt8) (add : Bool) (l : List Cond) :
    stepP c nxt (.with add b l) = if c == 43 && !add then none else some (.bare (c == 43) true (l ++ [condOf (b, add)])) := by
  have hne := isBits_ne hb
  obtain ⟨hl1, hl2⟩ := isBits_len hb
  have hc1 : (c == 120) = false := by rcases hc with rfl | rfl <;> rfl
  have hc2 : isDig c = false := by rcases hc with rfl | rfl <;> rfl
  have hc3 : (c == 48 || c == 49) = false := by rcases hc with rfl | rfl <;> rfl
  have hc4 : isHexL c = false := by rcases hc with rfl | rfl <;> rfl
  have hc5 : (c == 121) = false := by rcases hc with rfl | rfl <;> rfl
  have hc6 : (c == 43 || c == 45) = true := by rcases hc with rfl | rfl <;> rfl
  have hemp : b.isEmpty = false := by cases b with | nil => exact absurd rfl hne | cons => rfl
  have h64 : decide (64 < b.length * 1) = false := by simp; omega
  have hcond : PSt.cond (.with add b l) = condOf (b, add) := by
    unfold PSt.cond PSt.with condOf
    rcases hb with rfl | ⟨h1, h2, h3⟩
    · simp
    · have hy : b ≠ [121] := by rintro rfl; have := h3 121 (by simp); simp at this
      have hh : b.head? ≠ some 121 := by
        cases b with
        | nil => simp
        | cons a r => intro e; simp at e; subst e; have := h3 121 (by simp); simp at this
      simp [hy, hh]
  unfold stepP
  rw [hc1, hc2, hc3, hc4, hc5, hc6, hcond]
  simp only [PSt.with, hemp, PSt.fresh, PSt.bare]
  have h64' : ¬ (64 < List.length b) := by omega
  simp [h64']
/-- the terms of a pattern, whatever stands behind them -/
theorem run_terms {add : Bool} {s : Bs} {ts : List (Bs × Bool)} (h : Terms add s ts) : ∀ (pos : Bool) (l : List Cond) (r : Bs), signed r →
    ∃ b a ts0, ts = ts0 ++ [(b, a)] ∧ isBitsL b ∧ runP (s ++ r) (.bare add pos l) = runP r (.with a b (l ++ ts0.map condOf)) ∧ (add = false → a = false) ∧ ((45 : UInt8) ∈ s → a = false) := by
  induction h with
  | @last add b hb =>
    intro pos l r hr
    refine ⟨b, add, [], rfl, hb, by rw [run_bits hb hr]; simp, fun h => h, fun h => ?_⟩
    rcases hb with rfl | ⟨_, _, h3⟩
    · simp at h
    · have := h3 45 h; simp at this
  | @more add b r1 c ts hb hc ha hr ih =>
    intro pos l r hsr
    have hs2 : signed (c :: r1 ++ r) := .inr ⟨c, r1 ++ r, rfl, hc⟩
    have hnot : (c == 43 && !add) = false := by
      rcases hc with rfl | rfl
      · rw [ha rfl]; rfl
      · rfl
    obtain ⟨b2, a2, ts2, he, hb2, hrun, hf, hm⟩ := ih true (l ++ [condOf (b, add)]) r hsr
    refine ⟨b2, a2, (b, add) :: ts2, by rw [he]; rfl, hb2, ?_, fun h => ?_, fun h => ?_⟩
    · rw [List.append_assoc, run_bits hb hs2, List.cons_append, runP, step_sign hb c hc, hnot]
      simp only [Bool.false_eq_true, if_false, Option.bind_some, List.map_cons]
      rw [hrun]; simp
    · apply hf
      rcases hc with rfl | rfl
      · rw [ha rfl] at h; cases h
      · rfl
    · rcases hc with rfl | rfl
      · apply hm
        rcases List.mem_append.1 h with h | h
        · rcases hb with rfl | ⟨_, _, h3⟩
          · simp at h
          · have := h3 45 h; simp at this
        · rcases List.mem_cons.1 h with h | h
          · cases h
          · exact h
      · exact hf rfl
theorem run_terms_all {add : Bool} {s : Bs} {ts : List (Bs × Bool)} (h : Terms add s ts) (pos : Bool) (l : List Cond) : ∃ st, runP s (.bare add pos l) = some st ∧ st.list = l ++ ts.map condOf := by
  obtain ⟨b, a, ts0, rfl, hb, hrun, _⟩ := run_terms h pos l [] (.inl rfl)
  rw [List.append_nil] at hrun
  rw [hrun, runP, step_sign hb 45 (.inr rfl)]
  exact ⟨_, rfl, by simp [PSt.bare]⟩
end Go.Proofs.Ytnjdckhaecdldaa
