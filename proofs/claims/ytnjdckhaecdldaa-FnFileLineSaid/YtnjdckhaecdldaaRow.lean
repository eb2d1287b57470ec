/-
  Words of the prover's own on slices that the call itself makes: 'Row w B size v n xs': the slice value v has n elements whose cells are xs; it lies in a block from B on, and its spare cells may be written. One law on append, whatever is appended; []byte(s) and string(b) over such rows. No condition.
-/
import Derived.WalkKit
import Derived.Deep.Upon
import Derived.Deep.AppendSrc
import Derived.Deep.Draws
import Derived.Lib.ConvBytes
import Derived.Laws.BytesArg
import Derived.PlainAid
namespace Go.Proofs.Ytnjdckhaecdldaa
open Go.RowKit Go.Lib

def Row (w : World) (B size : Nat) (v : Value) (n : Nat) (xs : List Value) : Prop :=
  xs.length = n * size ∧ (∀ g, v.ownBlock = some g → B ≤ g ∧ g < w.heap.size) ∧ ∃ ao cap, v = .slice ao n cap ∧ n ≤ cap ∧ cap ≤ maxLen ∧
    (0 < cap → ∃ g o, ao = some ⟨g, o, none⟩ ∧ B ≤ g ∧ g < w.heap.size ∧ (∀ j, j < n * size → w.cell? ⟨g, o + j, none⟩ = xs[j]?) ∧
      (∀ j, n * size ≤ j → j < cap * size → (w.cell? ⟨g, o + j, none⟩).isSome = true ∧ w.frozen? ⟨g, o + j, none⟩ = false))

section
variable {w w' : World} {B size n : Nat} {v : Value} {xs : List Value}

theorem Row.nil (w : World) (B size : Nat) : Row w B size (.slice none 0 0) 0 [] := ⟨by simp, fun _ h => by simp [Value.ownBlock] at h, none, 0, rfl, Nat.le_refl _, by simp [maxLen], fun h => absurd h (by omega)⟩
theorem Row.shape (h : Row w B size v n xs) : ∃ ao cap, v = .slice ao n cap := by
  obtain ⟨_, _, ao, cap, e, _⟩ := h; exact ⟨ao, cap, e⟩
theorem Row.blk (h : Row w B size v n xs) : ∀ g, v.ownBlock = some g → B ≤ g := fun g hg => (h.2.1 g hg).1
theorem Row.blt (h : Row w B size v n xs) : ∀ g, v.ownBlock = some g → g < w.heap.size := fun g hg => (h.2.1 g hg).2
theorem Row.keep (h : Row w B size v n xs) (hs : w.heap.size ≤ w'.heap.size) (hk : ∀ g, v.ownBlock = some g → B ≤ g → g < w.heap.size → w'.heap[g]? = w.heap[g]?) : Row w' B size v n xs := by
  obtain ⟨hl, hbk, ao, cap, rfl, hle, hcm, hg⟩ := h
  refine ⟨hl, fun g hg => ⟨(hbk g hg).1, Nat.lt_of_lt_of_le (hbk g hg).2 hs⟩, ao, cap, rfl, hle, hcm, fun hc => ?_⟩
  obtain ⟨g, o, rfl, hB, hlt, hx, hsp⟩ := hg hc
  have e := hk g rfl hB hlt
  refine ⟨g, o, rfl, hB, Nat.lt_of_lt_of_le hlt hs, fun j hj => ?_, fun j h1 h2 => ?_⟩
  · rw [World.cell?_of_block (w := w) (a := ⟨g, o + j, none⟩) e]; exact hx j hj
  · rw [World.cell?_of_block (w := w) (a := ⟨g, o + j, none⟩) e, World.frozen?_of_block (w := w) (a := ⟨g, o + j, none⟩) e]; exact hsp j h1 h2
theorem Row.alloc (h : Row w B size v n xs) (o : Obj) : Row (w.alloc o) B size v n xs := h.keep (by simp) fun g _ _ hlt => Below.heap_alloc w o g hlt
theorem Row.drew (h : Row w B size v n xs) : Row w.drew B size v n xs := h
theorem Row.drewN (h : Row w B size v n xs) (k : Nat) : Row (w.drewN k) B size v n xs := h
theorem Row.setCell (h : Row w B size v n xs) {p : Addr} (hp : v.ownBlock ≠ some p.block) (u : Value) : Row (w.setCell p u) B size v n xs :=
  h.keep (by simp [World.setCell]) fun g hg _ _ => Below.heap_setCell w p u g (fun e => hp (by rw [hg, e]))
theorem Row.grown (h : Row w B size v n xs) {row : Option Nat} (hg : w.grownBy w' row) (hne : v.ownBlock ≠ row ∨ v.ownBlock = none) : Row w' B size v n xs :=
  h.keep hg.size fun g hgv _ hlt => hg.block g hlt (fun e => by rcases hne with hne | hne; exact hne (by rw [hgv, e]); rw [hne] at hgv; cases hgv)
theorem Row.below (h : Row w B size v n xs) {B' : Nat} (hb : Below B' w w') (hlt : ∀ g, v.ownBlock = some g → g < B') : Row w' B size v n xs :=
  h.keep hb.size fun g hg _ _ => hb.block g (hlt g hg)
theorem Row.mono {B' : Nat} (h : Row w B size v n xs) (hB : B' ≤ B) : Row w B' size v n xs := by
  obtain ⟨hl, hbk, ao, cap, rfl, hle, hcm, hg⟩ := h
  refine ⟨hl, fun g hg => ⟨Nat.le_trans hB (hbk g hg).1, (hbk g hg).2⟩, ao, cap, rfl, hle, hcm, fun hc => ?_⟩
  obtain ⟨g, o, e, h1, r⟩ := hg hc
  exact ⟨g, o, e, by omega, r⟩
theorem Row.own {base : Nat} {e : TypeId} (h : w.ownsRow base e size v n xs) : Row w base size v n xs := by
  obtain ⟨hl, h2⟩ := h
  rcases h2 with ⟨rfl, rfl⟩ | ⟨g, cap, cur, rfl, hb, hg, hle, hcm, hcs, htk⟩
  · obtain rfl : xs = [] := List.eq_nil_of_length_eq_zero (by simpa using hl)
    exact Row.nil _ _ _
  · refine ⟨hl, fun g' hg' => (by simp [Value.ownBlock] at hg'; subst hg'; exact ⟨hb, (Array.getElem?_eq_some_iff.1 hg).1⟩), _, cap, rfl, hle, hcm, fun _ => ⟨g, 0, rfl, hb, (Array.getElem?_eq_some_iff.1 hg).1, fun j hj => ?_, fun j h1 h2 => ⟨?_, ?_⟩⟩⟩
    · rw [Nat.zero_add, cell_of_row w g j cur e (0, 0) hg, ← htk, List.getElem?_take, if_pos hj, Array.getElem?_toList]
    · rw [Nat.zero_add, cell_of_row w g j cur e (0, 0) hg, Array.getElem?_eq_getElem (by omega)]; rfl
    · rw [Nat.zero_add]; exact frozen_of_row w g j cur e hg
/-- Where an element lies. -/
theorem Row.at_ (h : Row w B size v n xs) (hn : 0 < n) (_hs : 0 < size) : ∃ g o cap, v = .slice (some ⟨g, o, none⟩) n cap ∧ B ≤ g ∧ g < w.heap.size ∧ n ≤ cap ∧ cap ≤ maxLen ∧ ∀ j, j < n * size → w.cell? ⟨g, o + j, none⟩ = xs[j]? := by
  obtain ⟨_, _, ao, cap, rfl, hle, hcm, hg⟩ := h
  obtain ⟨g, o, rfl, hB, hlt, hx, _⟩ := hg (by omega)
  exact ⟨g, o, cap, rfl, hB, hlt, hle, hcm, hx⟩
theorem Row.len (h : Row w B size v n xs) : xs.length = n * size := h.1
end

section
variable {P : Program} (w : World)

theorem run_append_row (B : Nat) (t tx ty e : TypeId) (i : TypeInfo) (z : Value) (size bytes : Nat) (ht : P.underlying t = some (.slice e)) (hi : P.info? e = some i) (hz : i.zero = some z) (hsize : i.size = size) (hby : i.bytes = bytes) (hzs : z.cells.size = size)
    {v : Value} {n : Nat} {xs : List Value} (h : Row w B size v n xs) (x : Value) (m : Nat) (news : List Value) (hs : Src P size tx x m news w) (h63 : n + m ≤ maxLen) (hbytes : (n + m) * bytes ≤ 140737488355328) (hB : B ≤ w.heap.size) :
    ∃ v' w', (Builtin.append_ #[t, tx] ty #[v, x]).run P w = .ok v' w' ∧ Row w' B size v' (n + m) (xs ++ news) ∧ w.grownBy w' v.ownBlock ∧ (v'.ownBlock = v.ownBlock ∨ v'.ownBlock = some w.heap.size) := by
  subst hsize
  subst hby
  have hsmall : n + m ≤ 9223372036854775807 := by simp only [maxLen] at h63; omega
  have hnl := hs.newsLen
  obtain ⟨hl, hbk, ao, cap, rfl, hle, hcm, hg⟩ := h
  have hlen : (xs ++ news).length = (n + m) * i.size := by rw [List.length_append, hl, hnl, Nat.add_mul]
  by_cases hfit : n + m ≤ cap
  · rcases Nat.eq_zero_or_pos cap with h0 | hcap
    · subst h0
      obtain rfl : n = 0 := by omega
      obtain rfl : m = 0 := by omega
      obtain rfl : news = [] := List.eq_nil_of_length_eq_zero (by simpa using hnl)
      refine ⟨_, _, run_append_nothing (P := P) w t tx ty e i ht hi ao 0 0 hle x hs, ⟨by simpa using hl, hbk, ao, 0, rfl, Nat.le_refl _, by simp [maxLen], fun h => absurd h (by omega)⟩, World.grownBy.refl w _, .inl rfl⟩
    · obtain ⟨g, o, rfl, hBg, hlt, hx, hsp⟩ := hg hcap
      have hrc : (n + m) * i.size ≤ cap * i.size := Nat.mul_le_mul_right _ hfit
      rw [Nat.add_mul] at hrc
      have ea : ∀ j, o + n * i.size + j = o + (n * i.size + j) := fun j => by omega
      have hsome : ∀ j, j < news.length → (w.cell? ⟨g, o + n * i.size + j, none⟩).isSome = true := fun j hj => by rw [ea]; exact (hsp _ (by omega) (by omega)).1
      have hrun := run_append_room_src (P := P) w t tx ty e i ht hi g o n cap x m news hs hfit hsome (fun j hj => by rw [ea]; exact (hsp _ (by omega) (by omega)).2)
      have hsz : (w.setCells g (o + n * i.size) news).heap.size = w.heap.size := by
        have : ∀ (vs : List Value) (o : Nat) (w : World), (w.setCells g o vs).heap.size = w.heap.size := by
          intro vs
          induction vs with
          | nil => intro o w; rfl
          | cons v r ih => intro o w; rw [World.setCells, ih]; simp [World.setCell]
        exact this _ _ _
      have htp : ∀ (vs : List Value) (o : Nat) (w : World), (w.setCells g o vs).tape = w.tape := by
        intro vs
        induction vs with
        | nil => intro o w; rfl
        | cons v r ih => intro o w; rw [World.setCells, ih]; rfl
      refine ⟨_, _, hrun, ⟨hlen, fun g' hg' => (by simp [Value.ownBlock] at hg'; subst hg'; exact ⟨hBg, by omega⟩), _, cap, rfl, hfit, hcm, fun _ => ⟨g, o, rfl, hBg, by omega, fun j hj => ?_, fun j h1 h2 => ⟨?_, ?_⟩⟩⟩, ⟨World.os_setCells _ _ _ _, htp _ _ _, World.output_setCells _ _ _ _, by omega, fun k hk hne => World.heap_setCells_other w g _ news hk (fun e => hne (by simp [Value.ownBlock, e]))⟩, .inl rfl⟩
      · rw [Nat.add_mul] at hj
        by_cases hjo : j < n * i.size
        · rw [World.cell?_setCells_out g _ _ _ _ (fun _ _ => Or.inl (by show o + j < o + n * i.size; omega)), List.getElem?_append_left (by omega)]
          exact hx j hjo
        · have ht' : j - n * i.size < news.length := by omega
          have := World.cell?_setCells_in g news (o + n * i.size) w hsome (j - n * i.size) ht'
          rw [show o + n * i.size + (j - n * i.size) = o + j by omega] at this
          rw [this, List.getElem?_append_right (by omega), hl, List.getElem?_eq_getElem ht']
      · rw [Nat.add_mul] at h1
        rw [World.cell?_setCells_out g _ _ _ _ (fun _ _ => Or.inr (by show o + n * i.size + news.length ≤ o + j; omega))]
        exact (hsp j (by omega) h2).1
      · rw [Nat.add_mul] at h1
        rw [World.frozen?_setCells]
        exact (hsp j (by omega) h2).2
  · have hold : (Builtin.firstCells i.size n (.slice ao n cap)).run P w.drew = .ok xs.toArray w.drew := by
      rcases Nat.eq_zero_or_pos cap with h0 | hcap
      · subst h0
        obtain rfl : n = 0 := by omega
        obtain rfl : xs = [] := List.eq_nil_of_length_eq_zero (by simpa using hl)
        cases ao with
        | none => exact run_firstCells_none w.drew i.size 0 0 0
        | some a' => exact run_firstCells_some w.drew i.size 0 a' 0 0 [] (by simp) (by intro _ _ h'; simp at h')
      · obtain ⟨g, o, rfl, _, _, hx, _⟩ := hg hcap
        refine run_firstCells_some w.drew i.size n ⟨g, o, none⟩ n cap xs hl (fun j u hu => ?_)
        rw [Addr.add_lit]
        have hj : j < n * i.size := by
          have := (List.getElem?_eq_some_iff.1 hu).1
          omega
        exact (hx j hj).trans hu
    have hgr : cap < n + m := by omega
    have hrun := run_append_grow_src (P := P) w t tx ty e i z ht hi hz ao n cap xs hold x m news hs hgr (by omega) (growslice_fits hgr hbytes)
    have hge := grownCap_ge w (n + m) cap e
    have hcm' := grownCap_le_maxLen w (n + m) cap e h63
    refine ⟨_, _, hrun, ⟨hlen, fun g' hg' => (by simp [Value.ownBlock] at hg'; subst hg'; exact ⟨hB, by simp⟩), _, _, rfl, hge, hcm', fun _ => ⟨w.heap.size, 0, rfl, hB, by simp, fun j hj => ?_, fun j h1 h2 => ⟨?_, ?_⟩⟩⟩, ⟨rfl, rfl, rfl, by simp, fun k hk _ => Below.heap_alloc w.drew _ k hk⟩, .inr rfl⟩
    · have e1 : (w.drew.alloc (.cells ((xs ++ news).toArray ++ Builtin.zeroCells z.cells (grownCap w (n + m) cap e - (n + m))) e)).cell? ⟨w.heap.size, j, none⟩ = _ := World.cell?_alloc_new w.drew _ _ j
      rw [Nat.zero_add, e1, Array.getElem?_append_left (by simp only [List.size_toArray]; omega), List.getElem?_toArray]
    · have e1 : (w.drew.alloc (.cells ((xs ++ news).toArray ++ Builtin.zeroCells z.cells (grownCap w (n + m) cap e - (n + m))) e)).cell? ⟨w.heap.size, j, none⟩ = _ := World.cell?_alloc_new w.drew _ _ j
      have hsz : ((xs ++ news).toArray ++ Builtin.zeroCells z.cells (grownCap w (n + m) cap e - (n + m))).size = grownCap w (n + m) cap e * i.size := by
        rw [Array.size_append, List.size_toArray, hlen, size_zeroCells, hzs, ← Nat.add_mul]
        congr 1
        omega
      rw [Nat.zero_add, e1, Array.getElem?_eq_getElem (by rw [hsz]; exact h2)]
      rfl
    · rw [Nat.zero_add]; exact World.frozen?_alloc_new w.drew _ _ j

theorem wpList_append_row {ops : Array Oper} {rest : List Oper} {o : Oper} {a : Act} {Q : Exit → Act → World → Prop} (hgd : o.guard = none) (s x : Operand) (t tx : TypeId)
    (ho : o.op = .call { callee := .builtin .append, args := #[s, x], argTypes := #[t, tx] })
    (B : Nat) (e : TypeId) (i : TypeInfo) (z : Value) (size bytes : Nat) (ht : P.underlying t = some (.slice e)) (hi : P.info? e = some i) (hz : i.zero = some z) (hsize : i.size = size) (hby : i.bytes = bytes) (hzs : z.cells.size = size)
    (v : Value) (n : Nat) (xs : List Value) (h : Row w B size v n xs) (hv : a.eval s = v) (xv : Value) (m : Nat) (news : List Value) (hs : Src P size tx xv m news w) (hx : a.eval x = xv)
    (h63 : n + m ≤ maxLen) (hbytes : (n + m) * bytes ≤ 140737488355328) (hB : B ≤ w.heap.size)
    (hK : ∀ v' w', Row w' B size v' (n + m) (xs ++ news) → w.grownBy w' v.ownBlock → (v'.ownBlock = v.ownBlock ∨ v'.ownBlock = some w.heap.size) → wpList P ops Q rest (a.put o.dst v') w') : wpList P ops Q (o :: rest) a w := by
  refine wpList_plain hgd fun K hK' => ?_
  obtain ⟨v', w', hrun, h2, h3, h4⟩ := run_append_row (P := P) w B t tx o.type e i z size bytes ht hi hz hsize hby hzs h xv m news hs h63 hbytes hB
  unfold Oper.wp
  simp [execOp, ho, resolve, invoke, builtin, hv, hx, hrun, Result.andThen]
  exact hK' _ _ (hK v' w' h2 h3 h4)

/-- append(v, y): one element of one cell, which the call has laid in a new block -/
theorem wpList_append_one {ops : Array Oper} {rest : List Oper} {o : Oper} {a : Act} {Q : Exit → Act → World → Prop} (hgd : o.guard = none) (s x : Operand) (t : TypeId)
    (ho : o.op = .call { callee := .builtin .append, args := #[s, x], argTypes := #[t, t] })
    (B : Nat) (e : TypeId) (i : TypeInfo) (z : Value) (bytes : Nat) (ht : P.underlying t = some (.slice e)) (hi : P.info? e = some i) (hz : i.zero = some z) (hsize : i.size = 1) (hby : i.bytes = bytes) (hzs : z.cells.size = 1)
    (v : Value) (n : Nat) (xs : List Value) (h : Row w B 1 v n xs) (hv : a.eval s = v) (y : Value) (hx : a.eval x = .slice (some ⟨w.heap.size, 0, none⟩) 1 1) (hy : y.oneCell' = true)
    (h63 : n + 1 ≤ maxLen) (hbytes : (n + 1) * bytes ≤ 140737488355328) (hB : B ≤ w.heap.size) {W : World} (hb : Below B W w)
    (hK : ∀ v' w', Row w' B 1 v' (n + 1) (xs ++ [y]) → Below B W w' → w.grownBy w' v.ownBlock → (v'.ownBlock = v.ownBlock ∨ v'.ownBlock = some (w.heap.size + 1)) → wpList P ops Q rest (a.put o.dst v') w') :
    wpList P ops Q (o :: rest) a (w.alloc (.cells #[y] e)) := by
  refine wpList_append_row (w.alloc (.cells #[y] e)) hgd s x t t ho B e i z 1 bytes ht hi hz hsize hby hzs v n xs (h.alloc _) hv _ 1 [y] (Src.ofSlice _ ht ⟨w.heap.size, 0, none⟩ 1 1 [y] rfl (fun j u hu => ?_) (fun u hu => by simp at hu; subst hu; exact hy)) hx h63 hbytes (by simp; omega) fun v' w' h1 h2 h3 => hK v' w' h1 ((hb.alloc hB _).grown h2 (by simp; omega) h.blk) ?_ (by simpa using h3)
  · have hj : j = 0 := by
      rcases Nat.eq_zero_or_pos j with h0 | h0
      · exact h0
      · rw [List.getElem?_eq_none (by simp; omega)] at hu; cases hu
    subst hj
    simp at hu
    subst hu
    rw [Addr.add_lit]
    exact (cell_of_row _ _ _ _ _ _ (heap_alloc_new w (.cells #[y] e))).trans rfl
  · exact ⟨h2.os, h2.tape, h2.output, by have := h2.size; simp at this; omega, fun k hk hne => (h2.block k (by simp; omega) hne).trans (Below.heap_alloc w _ k hk)⟩

/-- string(b) -/
theorem run_string_row {B : Nat} {src e : TypeId} (hs : P.underlying src = some (.slice e)) (he : P.underlying e = some (.int .u8)) {v : Value} {s : ByteArray} (h : Row w B 1 v s.size (byteCells s)) :
    ∀ dst, P.underlying dst = some .string → (convert src dst v).run P w = .ok (.string s) w := by
  intro dst hd
  obtain ⟨ao, cap, rfl⟩ := h.shape
  have hE : ∀ s : ByteArray, s.size = 0 → s = ByteArray.empty := by
    intro s hs; apply ByteArray.ext; exact Array.eq_empty_of_size_eq_zero hs
  have hfin : ∀ s : ByteArray, strOfNums (s.data.toList.map fun b => ((b.toNat : Nat) : Int)) = s := by
    intro s
    apply ByteArray.ext
    apply Array.toList_inj.1
    rw [show (strOfNums (s.data.toList.map fun b => ((b.toNat : Nat) : Int))).data.toList = _ from strOfNums_data _, List.map_map]
    conv => rhs; rw [← List.map_id s.data.toList]
    apply List.map_congr_left
    intro b _
    simp
  rcases ao with _ | ad
  · have h0 : s.size = 0 := by
      rcases Nat.eq_zero_or_pos s.size with h0 | h0
      · exact h0
      · obtain ⟨g, o, c, he, _⟩ := h.at_ h0 (by omega)
        cases he
    rw [hE s h0]
    exact run_convert_bytes_nil w src e hs he _ _ dst hd
  · rcases Nat.eq_zero_or_pos s.size with h0 | h0
    · have hk : (loadCells ad s.size).run P w = .ok (([] : List Int).map (Value.int .u8)).toArray w := by rw [h0]; rfl
      rw [run_convert_bytes_string w src dst e _ _ _ hs he hd, run_bytesToString w ad s.size cap [] hk, hE s h0]
      rfl
    · obtain ⟨g, o, c, hv, hB, hlt, _, _, hx⟩ := h.at_ h0 (by omega)
      simp only [Value.slice.injEq, Option.some.injEq] at hv
      obtain ⟨rfl, _, _⟩ := hv
      have := run_convert_bytes_arg (P := P) w src e hs he g o s.size cap (s.data.toList.map fun b => ((b.toNat : Nat) : Int)) (by rw [List.length_map, Array.length_toList]; rfl) (fun j hj => ?_) dst hd
      · rw [hfin] at this; exact this
      · rw [hx j (by omega)]
        have hj' : j < s.data.size := hj
        simp [byteCells, List.getD, Array.getElem?_eq_getElem hj']

/-- []byte(s) -/
theorem row_of_bytes (e : TypeId) (s : ByteArray) (B : Nat) (hB : B ≤ w.heap.size) (hs : s.size ≤ maxLen) :
    Row (bytesWorld w e s) B 1 (.slice (some ⟨w.heap.size, 0, none⟩) s.size (grownCap w s.size 0 e)) s.size (byteCells s) := by
  have hge := grownCap_ge w s.size 0 e
  have hcm' := grownCap_le_maxLen w s.size 0 e hs
  have hn := bytesWorld_at_new w e s
  refine ⟨by rw [byteCells_length, Nat.mul_one], fun g' hg' => (by simp [Value.ownBlock] at hg'; subst hg'; exact ⟨hB, by rw [bytesWorld_size]; omega⟩), _, _, rfl, hge, hcm', fun _ => ⟨w.heap.size, 0, rfl, hB, by rw [bytesWorld_size]; omega, fun j hj => ?_, fun j h1 h2 => ⟨?_, ?_⟩⟩⟩
  · rw [Nat.mul_one] at hj
    rw [Nat.zero_add, bytesWorld_cell w e s j hj]
    have hj' : j < s.data.size := hj
    simp [byteCells, List.getD, Array.getElem?_eq_getElem hj']
  · rw [Nat.zero_add, cell_of_row _ _ _ _ _ _ hn, Array.getElem?_eq_getElem (by simp [bytesCells]; have : s.data.size = s.size := rfl; omega)]; rfl
  · rw [Nat.zero_add]
    have : j < (bytesCells w e s).size := by simp [bytesCells]; have : s.data.size = s.size := rfl; omega
    simp [World.frozen?, hn]
    omega
theorem below_bytesWorld {B : Nat} {a : World} {w : World} (h : Below B a w) (hB : B ≤ w.heap.size) (e : TypeId) (s : ByteArray) : Below B a (bytesWorld w e s) := by
  refine h.trans ⟨?_, ?_, ?_, by rw [bytesWorld_size]; omega, fun k hk => bytesWorld_at_old w e s k (by omega)⟩
  · unfold bytesWorld World.freeze; split <;> rfl
  · unfold bytesWorld World.freeze; split <;> rfl
  · unfold bytesWorld World.freeze; split <;> rfl
end

theorem below_drewN {B : Nat} {a w : World} (h : Below B a w) (n : Nat) : Below B a (w.drewN n) := ⟨h.os, h.tape, h.output, h.size, h.block⟩
theorem byteCells_append (s t : ByteArray) : byteCells (s ++ t) = byteCells s ++ byteCells t := by simp [byteCells, ByteArray.data_append]

end Go.Proofs.Ytnjdckhaecdldaa
