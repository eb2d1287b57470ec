/-
  Plain facts: when edits make one text. And steps that a law lays itself. No condition.
-/
import Derived.Test.YtboiigeomgdkjaaImplTwice
import Derived.Test.YtboiigeomgdkjaaLong
set_option linter.unusedVariables false
namespace Go.Proofs.Ytboiigeomgdkjaa
open Go.RowKit Go.PlainAid Go.Lib

theorem mem_fnl {l : List St} {p : St → Prop} (h : ∀ z ∈ l, p z) : ∀ k, k < l.length → p (fnl l k) := fun k hk => by rw [fnl_at l hk]; exact h _ (List.getElem_mem _)
theorem good_sorted {d : ByteArray} {ss : List St} {T : Bs} (M : Nat) (hd : d.size ≤ 4294967296) (hl : ss.length ≤ 4294967295) (hin : ∀ z ∈ ss, inN d.size z) (hM : ∀ z ∈ ss, z.2.2.size ≤ M) (hMn : ss.length * M ≤ 100000000000000)
    (hs : Srt ltE 0 ss.length (fnl ss)) (hc : Chn (fnl ss) ss.length) (hT : finK (fnl ss) (L d) ss.length = T) : Good d ss T :=
  ⟨hd, hl, hin, ⟨M, hM, hMn⟩, fun g hg => by rw [hg.2.2 hs]; exact ⟨hc, hT⟩⟩
theorem good_nil (d : ByteArray) (hd : d.size ≤ 4294967296) : Good d [] (L d) :=
  good_sorted 0 hd (by simp) (by simp) (by simp) (by simp) (fun i j _ _ h => by simp at h) (fun i j _ h => by simp at h) (by simp [finK, outK, offK])
theorem good_one (b t e p : ByteArray) (hb : b.size ≤ 1000000) (ht : t.size ≤ 1000000) (he : e.size ≤ 1000000) (hp : p.size ≤ 1000000) : Good (b ++ t ++ e) [((b.size : Int), (b.size : Int) + (t.size : Int), p)] (L (b ++ p ++ e)) := by
  have hsz : (b ++ t ++ e).size = b.size + t.size + e.size := by rw [ByteArray.size_append, ByteArray.size_append]
  refine good_sorted 1000000 (by omega) (by simp) ?_ ?_ (by simp) (fun i j _ h1 h2 => by simp at h2; omega) (fun i j h1 h2 => by simp at h2; omega) ?_
  · intro z hz
    simp at hz; subst hz
    unfold inN; dsimp only; omega
  · intro z hz
    simp at hz; subst hz; exact hp
  · have e1 : outK (fnl [((b.size : Int), (b.size : Int) + (t.size : Int), p)]) (L (b ++ t ++ e)) 1 = L b ++ L p := by
      rw [outK_succ]
      show [] ++ ((L (b ++ t ++ e)).drop 0).take (((b.size : Int)).toNat - 0) ++ L p = _
      rw [List.nil_append, List.drop_zero, Nat.sub_zero, Int.toNat_natCast, L_append, L_append, List.append_assoc, ← L_len b, List.take_left]
    have e2 : offK (fnl [((b.size : Int), (b.size : Int) + (t.size : Int), p)]) 1 = b.size + t.size := by
      rw [offK_succ]; show ((b.size : Int) + (t.size : Int)).toNat = _; omega
    show finK _ _ 1 = _
    unfold finK
    rw [e1, e2, L_append, L_append, L_append, L_append, ← L_len b, ← L_len t, ← List.length_append, List.drop_left]
theorem arg_nil (w : World) : Arg w w.heap.size 3 none ([] : List St).length (stepCells []) := ⟨by simp [stepCells], fun h => by simp at h⟩
theorem arg_one (w : World) (x y : Int) (t : ByteArray) (T : TypeId) : Arg (w.alloc (.cells #[.int .i64 x, .int .i64 y, .string t] T)) (w.alloc (.cells #[.int .i64 x, .int .i64 y, .string t] T)).heap.size 3 (some ⟨w.heap.size, 0, none⟩) [((x, y, t) : St)].length (stepCells [(x, y, t)]) := by
  refine ⟨rfl, fun _ => ⟨_, _, rfl, by simp, fun j hj => ?_⟩⟩
  rw [cell_of_row _ _ _ _ _ _ (heap_alloc_new w _), Nat.zero_add]
  simp [stepCells, stC]
theorem edited_one (w : World) (b t e p : ByteArray) (hb : b.size ≤ 1000000) (ht : t.size ≤ 1000000) (he : e.size ≤ 1000000) (hp : p.size ≤ 1000000) :
    Calls Try.prog 15 #[.string (b ++ t ++ e), .slice (some ⟨w.heap.size, 0, none⟩) 1 1] (w.alloc (.cells #[.int .i64 (b.size : Int), .int .i64 ((b.size : Int) + (t.size : Int)), .string p] 33))
      (TextPost (w.alloc (.cells #[.int .i64 (b.size : Int), .int .i64 ((b.size : Int) + (t.size : Int)), .string p] 33)) (b ++ p ++ e)) := by
  have h := edited_any _ (b ++ t ++ e) _ _ 1 (arg_one w (b.size : Int) ((b.size : Int) + (t.size : Int)) p 33) _ (good_one b t e p hb ht he hp)
  rwa [mkB_L] at h
end Go.Proofs.Ytboiigeomgdkjaa
