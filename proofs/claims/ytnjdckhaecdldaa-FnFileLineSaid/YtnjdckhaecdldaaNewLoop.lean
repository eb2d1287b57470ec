/-
  bisect.New's main loop: its body, taken out of the translation by a function; the frame at a round's head; the relation that each round keeps. No condition.
-/
import Derived.Test.YtnjdckhaecdldaaNewPlain
import Derived.Lib.Hide
namespace Go.Proofs.Ytnjdckhaecdldaa
open Go.RowKit Go.PlainAid

def loopsOf : Code → List Code
  | .loop c => [c]
  | .seq a b => loopsOf a ++ loopsOf b
  | .block _ c => loopsOf c
  | .scope c => loopsOf c
  | .cond _ a b => loopsOf a ++ loopsOf b
  | _ => []
noncomputable def body3 : Code := ((Try.f23.body.map loopsOf).getD []).getD 2 .skip
set_option maxRecDepth 1000000 in
def Fr (s p : ByteArray) (b : Nat) (v6 v7 v8 v9 v10 : Value) (U : Nat → Value) : Act := ⟨#[.string s, U 1, U 2, U 3, .pointer (some ⟨b, 0, none⟩), .string p, v6, v7, v8, v9, v10, U 11, U 12, U 13, U 14, U 15, U 16, U 17, U 18, U 19, U 20, U 21, U 22, U 23, U 24, U 25, U 26, U 27, U 28, U 29, U 30, U 31, U 32, U 33, U 34, U 35, U 36, U 37, U 38, U 39, U 40, U 41, U 42, U 43, U 44, U 45, U 46, U 47, U 48, U 49, U 50, U 51, U 52, U 53, U 54, U 55, U 56, U 57, U 58, U 59, U 60, U 61, U 62, U 63, U 64, U 65, U 66, U 67, U 68, U 69, U 70, U 71, U 72, U 73, U 74, U 75, U 76, U 77, U 78, U 79, U 80, U 81, U 82, U 83, U 84, U 85, U 86, U 87, U 88, U 89, U 90, U 91, U 92, U 93, U 94, U 95, U 96, U 97, U 98, U 99, U 100, U 101, U 102, U 103, U 104, U 105, U 106, U 107, U 108, U 109, U 110, U 111, U 112, U 113, U 114, U 115, U 116, U 117, U 118, U 119, U 120, U 121, U 122, U 123, U 124, U 125, U 126, U 127, U 128, U 129, U 130, U 131, U 132, U 133, U 134, U 135, U 136, U 137, U 138, U 139, U 140, U 141, U 142, U 143, U 144, U 145, U 146, U 147, U 148, U 149, U 150, U 151, U 152, U 153, U 154, U 155, U 156, U 157, U 158, U 159, U 160, U 161, U 162, U 163, U 164, U 165, U 166, U 167, U 168, U 169, U 170, U 171, U 172, U 173, U 174, U 175, U 176, U 177, U 178, U 179, U 180, U 181, U 182, U 183, U 184, U 185, U 186, U 187, U 188, U 189, U 190, U 191, U 192, U 193, U 194, U 195, U 196, U 197, U 198, U 199, U 200, U 201, U 202, U 203, U 204, U 205, U 206, U 207, U 208, U 209, U 210, U 211, U 212, U 213, U 214, U 215, U 216, U 217, U 218, U 219, U 220, U 221, U 222, U 223, U 224, U 225, U 226, U 227, U 228, U 229, U 230, U 231, U 232, U 233, U 234, U 235, U 236, U 237, U 238, U 239, U 240, U 241, U 242, U 243, U 244, U 245, U 246, U 247, U 248, U 249, U 250, U 251, U 252, U 253, U 254, U 255, U 256, U 257, U 258, U 259, U 260, U 261, U 262, U 263, U 264, U 265, U 266, U 267, U 268, U 269, U 270, U 271, U 272, U 273, U 274, U 275, U 276, U 277, U 278, U 279, U 280, U 281, U 282, U 283, U 284], []⟩
def Wmu (p : ByteArray) (a : Act) (_ : World) : Nat := p.size + 1 - (intOf (a.tmps.getD 10 undef)).toNat
def WI (s p : ByteArray) (w : World) (v q e : Bool) (R : Option PSt) (a : Act) (wr : World) : Prop :=
  ∃ U v6 v7 v8 v9 v10, NRel p w v q e R v6 v7 v8 v9 v10 wr ∧ a = Fr s p w.heap.size v6 v7 v8 v9 v10 U
set_option maxRecDepth 1000000 in
theorem lit285 (f : Nat → Value) : (List.range 285).map f = [f 0, f 1, f 2, f 3, f 4, f 5, f 6, f 7, f 8, f 9, f 10, f 11, f 12, f 13, f 14, f 15, f 16, f 17, f 18, f 19, f 20, f 21, f 22, f 23, f 24, f 25, f 26, f 27, f 28, f 29, f 30, f 31, f 32, f 33, f 34, f 35, f 36, f 37, f 38, f 39, f 40, f 41, f 42, f 43, f 44, f 45, f 46, f 47, f 48, f 49, f 50, f 51, f 52, f 53, f 54, f 55, f 56, f 57, f 58, f 59, f 60, f 61, f 62, f 63, f 64, f 65, f 66, f 67, f 68, f 69, f 70, f 71, f 72, f 73, f 74, f 75, f 76, f 77, f 78, f 79, f 80, f 81, f 82, f 83, f 84, f 85, f 86, f 87, f 88, f 89, f 90, f 91, f 92, f 93, f 94, f 95, f 96, f 97, f 98, f 99, f 100, f 101, f 102, f 103, f 104, f 105, f 106, f 107, f 108, f 109, f 110, f 111, f 112, f 113, f 114, f 115, f 116, f 117, f 118, f 119, f 120, f 121, f 122, f 123, f 124, f 125, f 126, f 127, f 128, f 129, f 130, f 131, f 132, f 133, f 134, f 135, f 136, f 137, f 138, f 139, f 140, f 141, f 142, f 143, f 144, f 145, f 146, f 147, f 148, f 149, f 150, f 151, f 152, f 153, f 154, f 155, f 156, f 157, f 158, f 159, f 160, f 161, f 162, f 163, f 164, f 165, f 166, f 167, f 168, f 169, f 170, f 171, f 172, f 173, f 174, f 175, f 176, f 177, f 178, f 179, f 180, f 181, f 182, f 183, f 184, f 185, f 186, f 187, f 188, f 189, f 190, f 191, f 192, f 193, f 194, f 195, f 196, f 197, f 198, f 199, f 200, f 201, f 202, f 203, f 204, f 205, f 206, f 207, f 208, f 209, f 210, f 211, f 212, f 213, f 214, f 215, f 216, f 217, f 218, f 219, f 220, f 221, f 222, f 223, f 224, f 225, f 226, f 227, f 228, f 229, f 230, f 231, f 232, f 233, f 234, f 235, f 236, f 237, f 238, f 239, f 240, f 241, f 242, f 243, f 244, f 245, f 246, f 247, f 248, f 249, f 250, f 251, f 252, f 253, f 254, f 255, f 256, f 257, f 258, f 259, f 260, f 261, f 262, f 263, f 264, f 265, f 266, f 267, f 268, f 269, f 270, f 271, f 272, f 273, f 274, f 275, f 276, f 277, f 278, f 279, f 280, f 281, f 282, f 283, f 284] := rfl
theorem arr285 (x : Array Value) (h : x.size = 285) : x = ((List.range 285).map fun k => x.getD k undef).toArray := by
  apply Array.toList_inj.1
  apply List.ext_getElem
  · simp [h]
  · intro i h1 h2
    have : i < x.size := by simpa using h1
    simp [Array.getD, this]
theorem WI.mk2 {s p : ByteArray} {w : World} {v q e : Bool} {R : Option PSt} {a : Act} {wr : World} (v6 v7 v8 v9 v10 : Value) (hs : a.tmps.size = 285) (hd : a.defers = []) (h0 : a.tmps.getD 0 undef = .string s) (h4 : a.tmps.getD 4 undef = .pointer (some ⟨w.heap.size, 0, none⟩)) (h5 : a.tmps.getD 5 undef = .string p)
    (h6 : a.tmps.getD 6 undef = v6) (h7 : a.tmps.getD 7 undef = v7) (h8 : a.tmps.getD 8 undef = v8) (h9 : a.tmps.getD 9 undef = v9) (h10 : a.tmps.getD 10 undef = v10) (hr : NRel p w v q e R v6 v7 v8 v9 v10 wr) : WI s p w v q e R a wr := by
  refine ⟨fun k => a.tmps.getD k undef, v6, v7, v8, v9, v10, hr, ?_⟩
  obtain ⟨x, d⟩ := a
  simp only at *
  subst hd
  unfold Fr
  rw [Act.mk.injEq]
  refine ⟨?_, rfl⟩
  conv => lhs; rw [arr285 x hs, lit285]
  rw [h0, h4, h5, h6, h7, h8, h9, h10]
theorem WI.mk' {s p : ByteArray} {w : World} {v q e : Bool} {R : Option PSt} {a : Act} {wr : World} (v6 v7 v8 v9 v10 : Value) (h : a = Fr s p w.heap.size v6 v7 v8 v9 v10 (fun k => a.tmps.getD k undef)) (hr : NRel p w v q e R v6 v7 v8 v9 v10 wr) : WI s p w v q e R a wr :=
  ⟨_, _, _, _, _, _, hr, h⟩
theorem err_post {s : ByteArray} {w w' : World} {e : Ending} (h0 : 0 < s.size) (hn : newL (L s) = none) (hb : Below w.heap.size w w') (he : ∃ T p, e = .returned (.tuple #[.pointer none, .iface T p])) : NewPost s w e w' :=
  ⟨hb, .inr (.inl ⟨h0, hn, he⟩)⟩

end Go.Proofs.Ytnjdckhaecdldaa
