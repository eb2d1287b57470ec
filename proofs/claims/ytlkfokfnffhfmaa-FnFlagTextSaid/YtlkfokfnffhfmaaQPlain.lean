/-
  Plain laws on quoted fields: what Split computes of a list of bytes ('splitL'), what Join computes ('joinL'), and how they answer each other. No program in sight; no condition beyond those that each theorem states.
-/
namespace Go.Proofs.Ytlkfokfnffhfmaa

def isSp (b : UInt8) : Bool := b == 32 || b == 9 || b == 10 || b == 13
def isQ (b : UInt8) : Bool := b == 34 || b == 39

abbrev Bs := List UInt8

theorem drop_len {p : UInt8 → Bool} (l : Bs) : (l.dropWhile p).length ≤ l.length := by
  induction l with
  | nil => simp
  | cons a l ih => rw [List.dropWhile_cons]; split <;> simp <;> omega

/-- what Split tells of a text: its fields, or none where a quote is missing -/
def splitL (l : Bs) : Option (List Bs) :=
  match _h : l.dropWhile isSp with
  | [] => some []
  | c :: r =>
    if isQ c then
      match _h2 : r.dropWhile (· != c) with
      | [] => none
      | _ :: r' => (splitL r').map (r.takeWhile (· != c) :: ·)
    else (splitL (r.dropWhile (!isSp ·))).map ((c :: r.takeWhile (!isSp ·)) :: ·)
termination_by l.length
decreasing_by
  · have h1 := drop_len (p := isSp) l
    have h3 := drop_len (p := (· != c)) r
    rw [_h] at h1; rw [_h2] at h3; simp at h1 h3; omega
  · have h1 := drop_len (p := isSp) l
    have h3 := drop_len (p := (!isSp ·)) r
    rw [_h] at h1; simp at h1; omega

theorem splitL_nil : splitL [] = some [] := by rw [splitL]; rfl
theorem splitL_done {l : Bs} (h : l.dropWhile isSp = []) : splitL l = some [] := by
  rw [splitL]; split
  · rfl
  · rename_i e; rw [h] at e; cases e
theorem splitL_quote {l : Bs} {c : UInt8} {r : Bs} (h : l.dropWhile isSp = c :: r) (hq : isQ c = true) :
    splitL l = match r.dropWhile (· != c) with
      | [] => none
      | _ :: r' => (splitL r').map (r.takeWhile (· != c) :: ·) := by
  rw [splitL]; split
  · rename_i e; rw [h] at e; cases e
  · rename_i c' r' e; rw [h] at e; cases e; rw [if_pos hq]
    split <;> rename_i e2 <;> rw [e2]
theorem splitL_bare {l : Bs} {c : UInt8} {r : Bs} (h : l.dropWhile isSp = c :: r) (hq : isQ c = false) :
    splitL l = (splitL (r.dropWhile (!isSp ·))).map ((c :: r.takeWhile (!isSp ·)) :: ·) := by
  rw [splitL]; split
  · rename_i e; rw [h] at e; cases e
  · rename_i c' r' e; rw [h] at e; cases e; rw [if_neg (by simp [hq])]
/-- blanks ahead tell nothing -/
theorem splitL_skip (l : Bs) : splitL (l.dropWhile isSp) = splitL l := by
  have e : ∀ l : Bs, (l.dropWhile isSp).dropWhile isSp = l.dropWhile isSp := by
    intro l
    induction l with
    | nil => rfl
    | cons a l ih =>
      rw [List.dropWhile_cons]
      split
      · exact ih
      · rename_i h; rw [List.dropWhile_cons, if_neg h]
  generalize hm : l.dropWhile isSp = m
  have hm' : m.dropWhile isSp = m := by rw [← hm]; exact e l
  match m, hm, hm' with
  | [], hm, hm' => rw [splitL_done hm, splitL_nil]
  | c :: r, hm, hm' =>
    by_cases hq : isQ c = true
    · rw [splitL_quote hm hq, splitL_quote hm' hq]
    · have hq' : isQ c = false := by simpa using hq
      rw [splitL_bare hm hq', splitL_bare hm' hq']
theorem drop_sp (a : UInt8) (l : Bs) (h : isSp a = true) : (a :: l).dropWhile isSp = l.dropWhile isSp := by rw [List.dropWhile_cons, if_pos h]
theorem splitL_sp (a : UInt8) (l : Bs) (h : isSp a = true) : splitL (a :: l) = splitL l := by rw [← splitL_skip, drop_sp a l h, splitL_skip]
theorem splitL_sps (p l : Bs) (h : ∀ a ∈ p, isSp a = true) : splitL (p ++ l) = splitL l := by
  induction p with
  | nil => rfl
  | cons a p ih => rw [List.cons_append, splitL_sp a _ (h a (by simp)), ih (fun b hb => h b (by simp [hb]))]

theorem isQ_sp {c : UInt8} (h : isQ c = true) : isSp c = false := by
  simp [isQ] at h; rcases h with rfl | rfl <;> decide

theorem dropWhile_hit {p : UInt8 → Bool} (x : Bs) (c : UInt8) (r : Bs) (hx : ∀ b ∈ x, p b = true) (hc : p c = false) : (x ++ c :: r).dropWhile p = c :: r := by
  induction x with
  | nil => rw [List.nil_append, List.dropWhile_cons, if_neg (by simp [hc])]
  | cons a x ih => rw [List.cons_append, List.dropWhile_cons, if_pos (hx a (by simp)), ih (fun b hb => hx b (by simp [hb]))]
theorem takeWhile_hit {p : UInt8 → Bool} (x : Bs) (c : UInt8) (r : Bs) (hx : ∀ b ∈ x, p b = true) (hc : p c = false) : (x ++ c :: r).takeWhile p = x := by
  induction x with
  | nil => rw [List.nil_append, List.takeWhile_cons, if_neg (by simp [hc])]
  | cons a x ih => rw [List.cons_append, List.takeWhile_cons, if_pos (hx a (by simp)), ih (fun b hb => hx b (by simp [hb]))]
theorem dropWhile_all {p : UInt8 → Bool} (x : Bs) (hx : ∀ b ∈ x, p b = true) : x.dropWhile p = [] := by
  induction x with
  | nil => rfl
  | cons a x ih => rw [List.dropWhile_cons, if_pos (hx a (by simp)), ih (fun b hb => hx b (by simp [hb]))]
theorem takeWhile_all {p : UInt8 → Bool} (x : Bs) (hx : ∀ b ∈ x, p b = true) : x.takeWhile p = x := by
  induction x with
  | nil => rfl
  | cons a x ih => rw [List.takeWhile_cons, if_pos (hx a (by simp)), ih (fun b hb => hx b (by simp [hb]))]

/-- a field between quotes at the head -/
theorem splitL_quoted (q : UInt8) (x r : Bs) (hq : isQ q = true) (hx : q ∉ x) : splitL (q :: (x ++ q :: r)) = (splitL r).map (x :: ·) := by
  have h1 : (q :: (x ++ q :: r)).dropWhile isSp = q :: (x ++ q :: r) := by rw [List.dropWhile_cons, if_neg (by simp [isQ_sp hq])]
  have hb : ∀ b ∈ x, (b != q) = true := fun b hb => by simp; rintro rfl; exact hx hb
  rw [splitL_quote h1 hq, dropWhile_hit x q r hb (by simp), takeWhile_hit x q r hb (by simp)]
/-- a quote at the head that has no second one -/
theorem splitL_missing (q : UInt8) (x : Bs) (hq : isQ q = true) (hx : q ∉ x) : splitL (q :: x) = none := by
  have h1 : (q :: x).dropWhile isSp = q :: x := by rw [List.dropWhile_cons, if_neg (by simp [isQ_sp hq])]
  rw [splitL_quote h1 hq, dropWhile_all x (fun b hb => by simp; rintro rfl; exact hx hb)]
/-- a bare field at the head, a space or the end behind it -/
theorem splitL_word (x r : Bs) (c : UInt8) (h : x.head? = some c) (hq : isQ c = false) (hx : ∀ b ∈ x, isSp b = false) (hr : r = [] ∨ ∃ d r', r = d :: r' ∧ isSp d = true) :
    splitL (x ++ r) = (splitL r).map (x :: ·) := by
  match x, h with
  | a :: x, h =>
    simp at h; subst h
    have h1 : ((a :: x) ++ r).dropWhile isSp = a :: (x ++ r) := by rw [List.cons_append, List.dropWhile_cons, if_neg (by simp [hx a (by simp)])]
    have hb : ∀ b ∈ x, (!isSp b) = true := fun b hb => by simp [hx b (by simp [hb])]
    rw [splitL_bare h1 hq]
    rcases hr with rfl | ⟨d, r', rfl, hd⟩
    · rw [List.append_nil, dropWhile_all x hb, takeWhile_all x hb]
    · rw [dropWhile_hit x d r' hb (by simp [hd]), takeWhile_hit x d r' hb (by simp [hd])]

/-- what Join makes of one argument -/
def has (b : UInt8) (x : Bs) : Bool := x.contains b
def both (x : Bs) : Bool := has 39 x && has 34 x
def quoteL (x : Bs) : Bs :=
  if !(x.any isSp) && !has 39 x && !has 34 x then x
  else if !has 39 x then 39 :: (x ++ [39])
  else 34 :: (x ++ [34])
def joinGo : List Bs → Bs
  | [] => []
  | [x] => quoteL x
  | x :: y :: r => quoteL x ++ 32 :: joinGo (y :: r)
def joinable (args : List Bs) : Bool := args.all fun x => !x.isEmpty && !both x

theorem has_iff {b : UInt8} {x : Bs} : has b x = true ↔ b ∈ x := by simp [has]
theorem quoteL_split (x r : Bs) (hx : x ≠ []) (hb : both x = false) (hr : r = [] ∨ ∃ d r', r = d :: r' ∧ isSp d = true) : splitL (quoteL x ++ r) = (splitL r).map (x :: ·) := by
  unfold quoteL
  split
  · rename_i h
    simp only [Bool.and_eq_true, Bool.not_eq_true'] at h
    obtain ⟨⟨h1, h2⟩, h3⟩ := h
    obtain ⟨c, x', rfl⟩ := List.exists_cons_of_ne_nil hx
    refine splitL_word (c :: x') r c rfl ?_ (fun b hb => ?_) hr
    · simp [isQ]
      simp [has] at h2 h3
      exact ⟨fun e => h3.1 e.symm, fun e => h2.1 e.symm⟩
    · have := List.any_eq_false.1 h1 b hb
      simpa using this
  · split
    · rename_i h
      rw [List.cons_append, List.append_assoc]
      exact splitL_quoted 39 x r (by decide) (fun e => by simp [has_iff.2 e] at h)
    · rename_i h
      have h39 : has 39 x = true := by simpa using h
      rw [List.cons_append, List.append_assoc]
      refine splitL_quoted 34 x r (by decide) (fun e => ?_)
      simp [both, h39, has_iff.2 e] at hb
theorem quoteL_split_nil (x : Bs) (hx : x ≠ []) (hb : both x = false) : splitL (quoteL x) = some [x] := by
  have := quoteL_split x [] hx hb (.inl rfl)
  rw [List.append_nil, splitL_nil] at this
  simpa using this
theorem join_split (args : List Bs) (h : joinable args = true) : splitL (joinGo args) = some args := by
  induction args with
  | nil => exact splitL_nil
  | cons x r ih =>
    simp only [joinable, List.all_cons, Bool.and_eq_true, Bool.not_eq_true'] at h
    obtain ⟨⟨h1, h2⟩, h3⟩ := h
    have hx : x ≠ [] := by rintro rfl; simp at h1
    match r with
    | [] => exact quoteL_split_nil x hx h2
    | y :: r =>
      rw [joinGo, quoteL_split x _ hx h2 (.inr ⟨32, _, rfl, by decide⟩), splitL_sp 32 _ (by decide), ih h3]
      rfl
/-- what is behind Join's text, a space between -/
theorem join_parts (a b : List Bs) (ha : joinable a = true) (hb : joinable b = true) : splitL (joinGo a ++ 32 :: joinGo b) = some (a ++ b) := by
  induction a with
  | nil => rw [joinGo, List.nil_append, splitL_sp 32 _ (by decide), join_split b hb]; rfl
  | cons x r ih =>
    simp only [joinable, List.all_cons, Bool.and_eq_true, Bool.not_eq_true'] at ha
    obtain ⟨⟨h1, h2⟩, h3⟩ := ha
    have hx : x ≠ [] := by rintro rfl; simp at h1
    match r with
    | [] =>
      rw [joinGo, quoteL_split x _ hx h2 (.inr ⟨32, _, rfl, by decide⟩), splitL_sp 32 _ (by decide), join_split b hb]; rfl
    | y :: r =>
      rw [joinGo, List.append_assoc, List.cons_append, quoteL_split x _ hx h2 (.inr ⟨32, _, rfl, by decide⟩), splitL_sp 32 _ (by decide), ih h3]
      rfl
/-- blanks behind a text that is told tell nothing -/
theorem splitL_trail (p : Bs) (hp : ∀ a ∈ p, isSp a = true) : ∀ (n : Nat) (l : Bs) (f : List Bs), l.length ≤ n → splitL l = some f → splitL (l ++ p) = some f := by
  intro n
  induction n with
  | zero =>
    intro l f hl h
    obtain rfl : l = [] := List.eq_nil_of_length_eq_zero (by omega)
    rw [List.nil_append, ← List.append_nil p, splitL_sps p [] hp]; exact h
  | succ n ih =>
    intro l f hl h
    have hdl := drop_len (p := isSp) l
    have hd : l.dropWhile isSp = [] → ∀ a ∈ l, isSp a = true := by
      intro he
      clear h hl hdl ih
      induction l with
      | nil => simp
      | cons a l ihl =>
        rw [List.dropWhile_cons] at he
        split at he
        · intro b hb
          rcases List.mem_cons.1 hb with rfl | hb
          · assumption
          · exact ihl he b hb
        · cases he
    have happ : ∀ c r, l.dropWhile isSp = c :: r → (l ++ p).dropWhile isSp = c :: (r ++ p) := by
      intro c r he
      clear h hl hdl ih hd
      induction l with
      | nil => cases he
      | cons a l ihl =>
        rw [List.dropWhile_cons] at he
        split at he
        · rename_i hs; rw [List.cons_append, List.dropWhile_cons, if_pos hs]; exact ihl he
        · rename_i hs
          cases he
          rw [List.cons_append, List.dropWhile_cons, if_neg hs]
    match he : l.dropWhile isSp with
    | [] =>
      rw [splitL_done he] at h
      rw [splitL_sps l p (hd he), ← List.append_nil p, splitL_sps p [] hp, splitL_nil]; exact h
    | c :: r =>
      rw [he] at hdl; simp at hdl
      by_cases hq : isQ c = true
      · rw [splitL_quote he hq] at h
        rw [splitL_quote (happ c r he) hq]
        match he2 : r.dropWhile (· != c) with
        | [] => rw [he2] at h; cases h
        | d :: r' =>
          rw [he2] at h
          have hd2 := drop_len (p := (· != c)) r
          rw [he2] at hd2; simp at hd2
          have e2 : (r ++ p).dropWhile (· != c) = d :: (r' ++ p) ∧ (r ++ p).takeWhile (· != c) = r.takeWhile (· != c) := by
            clear h hl hdl ih hd happ he hd2
            induction r with
            | nil => cases he2
            | cons a r ihr =>
              rw [List.dropWhile_cons] at he2
              split at he2
              · rename_i hs; rw [List.cons_append, List.dropWhile_cons, if_pos hs, List.takeWhile_cons, List.takeWhile_cons, if_pos hs, if_pos hs]
                obtain ⟨i1, i2⟩ := ihr he2
                exact ⟨i1, by rw [i2]⟩
              · rename_i hs
                cases he2
                rw [List.cons_append, List.dropWhile_cons, if_neg hs, List.takeWhile_cons, List.takeWhile_cons, if_neg hs, if_neg hs]
                exact ⟨rfl, rfl⟩
          rw [e2.1, e2.2]
          simp only [Option.map_eq_some_iff] at h ⊢
          obtain ⟨g, hg, rfl⟩ := h
          exact ⟨g, ih r' g (by omega) hg, rfl⟩
      · have hq' : isQ c = false := by simpa using hq
        rw [splitL_bare he hq'] at h
        rw [splitL_bare (happ c r he) hq']
        simp only [Option.map_eq_some_iff] at h ⊢
        obtain ⟨g, hg, rfl⟩ := h
        have hd2 := drop_len (p := (!isSp ·)) r
        have e2 : (r ++ p).takeWhile (!isSp ·) = r.takeWhile (!isSp ·) ∧ splitL ((r ++ p).dropWhile (!isSp ·)) = some g := by
          match he2 : r.dropWhile (!isSp ·) with
          | [] =>
            rw [he2, splitL_nil] at hg
            have hall : ∀ b ∈ r, (!isSp b) = true := by
              clear hl hdl ih hd happ he hd2 hg
              induction r with
              | nil => simp
              | cons a r ihr =>
                rw [List.dropWhile_cons] at he2
                split at he2
                · intro b hb
                  rcases List.mem_cons.1 hb with rfl | hb
                  · assumption
                  · exact ihr he2 b hb
                · cases he2
            match p, hp with
            | [], hp => rw [List.append_nil, he2, splitL_nil]; exact ⟨rfl, hg⟩
            | d :: p', hp =>
              rw [takeWhile_hit r d p' hall (by simp [hp d (by simp)]), dropWhile_hit r d p' hall (by simp [hp d (by simp)]), takeWhile_all r hall]
              refine ⟨rfl, ?_⟩
              rw [← List.append_nil (d :: p'), splitL_sps _ [] hp, splitL_nil]; exact hg
          | d :: r' =>
            rw [he2] at hg hd2
            simp at hd2
            have e3 : (r ++ p).dropWhile (!isSp ·) = d :: (r' ++ p) ∧ (r ++ p).takeWhile (!isSp ·) = r.takeWhile (!isSp ·) := by
              clear hl hdl ih hd happ he hd2 hg
              induction r with
              | nil => cases he2
              | cons a r ihr =>
                rw [List.dropWhile_cons] at he2
                split at he2
                · rename_i hs; rw [List.cons_append, List.dropWhile_cons, if_pos hs, List.takeWhile_cons, List.takeWhile_cons, if_pos hs, if_pos hs]
                  obtain ⟨i1, i2⟩ := ihr he2
                  exact ⟨i1, by rw [i2]⟩
                · rename_i hs
                  cases he2
                  rw [List.cons_append, List.dropWhile_cons, if_neg hs, List.takeWhile_cons, List.takeWhile_cons, if_neg hs, if_neg hs]
                  exact ⟨rfl, rfl⟩
            rw [e3.1, e3.2]
            exact ⟨rfl, ih (d :: r') g (by simp; omega) hg⟩
        rw [e2.1]
        exact ⟨g, e2.2, rfl⟩
/-- each field takes a byte of the text at least -/
theorem splitL_count : ∀ (n : Nat) (l : Bs) (f : List Bs), l.length ≤ n → splitL l = some f → f.length ≤ l.length := by
  intro n
  induction n with
  | zero =>
    intro l f hl h
    obtain rfl : l = [] := List.eq_nil_of_length_eq_zero (by omega)
    rw [splitL_nil] at h; cases h; simp
  | succ n ih =>
    intro l f hl h
    have hdl := drop_len (p := isSp) l
    match he : l.dropWhile isSp with
    | [] => rw [splitL_done he] at h; cases h; simp
    | c :: r =>
      rw [he] at hdl; simp at hdl
      by_cases hq : isQ c = true
      · rw [splitL_quote he hq] at h
        match he2 : r.dropWhile (· != c) with
        | [] => rw [he2] at h; cases h
        | d :: r' =>
          rw [he2] at h
          have hd2 := drop_len (p := (· != c)) r
          rw [he2] at hd2; simp at hd2
          simp only [Option.map_eq_some_iff] at h
          obtain ⟨g, hg, rfl⟩ := h
          have := ih r' g (by omega) hg
          simp; omega
      · have hq' : isQ c = false := by simpa using hq
        rw [splitL_bare he hq'] at h
        simp only [Option.map_eq_some_iff] at h
        obtain ⟨g, hg, rfl⟩ := h
        have hd2 := drop_len (p := (!isSp ·)) r
        have := ih _ g (by omega) hg
        simp; omega
end Go.Proofs.Ytlkfokfnffhfmaa
