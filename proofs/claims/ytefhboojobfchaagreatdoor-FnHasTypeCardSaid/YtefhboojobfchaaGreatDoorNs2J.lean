/- NewSchemaFromObject: its loop, its frame, what a round finds (no program's steps here). -/
import Derived.Test.YtefhboojobfchaaGreatDoorIs1J
import Derived.Test.YtefhboojobfchaaGreatDoorNs1J
set_option linter.unusedVariables false
set_option linter.unusedSimpArgs false
namespace Go.Proofs.YtefhboojobfchaaGreatDoor
open Go.RowKit

def firstLoop : Code → Option Code
  | .loop c => some c
  | .seq a b => match firstLoop a with
    | some c => some c
    | none => firstLoop b
  | .block _ c => firstLoop c
  | .scope c => firstLoop c
  | .cond _ a b => match firstLoop a with
    | some c => some c
    | none => firstLoop b
  | _ => none
noncomputable def nsoBody : Code := ((Tryz.f19.body.bind firstLoop).getD .skip)
set_option maxRecDepth 1000000 in
def lit (n m p : Nat) (z : Int) (u : Nat → Value) : Act := ⟨#[.pointer (some ⟨n, 0, none⟩), .map (some m), u 2, u 3, .pointer none, .pointer (some ⟨p, 0, none⟩), .int .i64 z, u 7, u 8, u 9, u 10, u 11, u 12, u 13, u 14, u 15, u 16, u 17, u 18, u 19, u 20, u 21, u 22, u 23, u 24, u 25, u 26, u 27, u 28, u 29, u 30, u 31, u 32, u 33, u 34, u 35, u 36, u 37, u 38, u 39, u 40, u 41, u 42, u 43, u 44, u 45, u 46, u 47, u 48, u 49, u 50, u 51, u 52, u 53, u 54, u 55, u 56, u 57, u 58, u 59, u 60, u 61, u 62, u 63, u 64, u 65, u 66, u 67, u 68, u 69, u 70, u 71, u 72, u 73, u 74, u 75, u 76, u 77, u 78, u 79, u 80, u 81, u 82, u 83, u 84, u 85, u 86, u 87, u 88, u 89, u 90, u 91, u 92, u 93, u 94, u 95, u 96, u 97, u 98, u 99, u 100, u 101, u 102, u 103, u 104, u 105, u 106, u 107, u 108, u 109, u 110, u 111, u 112, u 113, u 114, u 115, u 116, u 117, u 118, u 119, u 120, u 121, u 122, u 123, u 124, u 125, u 126, u 127, u 128, u 129, u 130, u 131, u 132, u 133, u 134, u 135, u 136, u 137, u 138, u 139, u 140, u 141, u 142, u 143, u 144, u 145, u 146, u 147, u 148, u 149, u 150, u 151, u 152, u 153, u 154, u 155, u 156, u 157, u 158, u 159, u 160, u 161, u 162, u 163, u 164, u 165, u 166, u 167, u 168, u 169, u 170, u 171, u 172, u 173, u 174, u 175, u 176, u 177, u 178, u 179, u 180, u 181, u 182, u 183, u 184, u 185, u 186, u 187, u 188, u 189, u 190, u 191, u 192, u 193, u 194, u 195, u 196, u 197, u 198, u 199, u 200, u 201, u 202, u 203, u 204, u 205, u 206, u 207, u 208, u 209, u 210, u 211, u 212, u 213, u 214, u 215, u 216, u 217, u 218, u 219, u 220, u 221, u 222, u 223, u 224, u 225, u 226, u 227, u 228, u 229, u 230, u 231, u 232, u 233, u 234, u 235, u 236, u 237, u 238, u 239, u 240, u 241, u 242, u 243, u 244, u 245, u 246, u 247, u 248, u 249, u 250, u 251, u 252, u 253, u 254, u 255, u 256, u 257, u 258, u 259, u 260, u 261, u 262, u 263, u 264, u 265, u 266, u 267, u 268, u 269, u 270, u 271, u 272, u 273, u 274, u 275, u 276, u 277, u 278, u 279, u 280, u 281, u 282, u 283, u 284, u 285, u 286, u 287, u 288, u 289, u 290, u 291, u 292, u 293, u 294, u 295, u 296, u 297, u 298, u 299, u 300, u 301, u 302, u 303, u 304, u 305, u 306, u 307, u 308, u 309, u 310, u 311, u 312, u 313, u 314, u 315, u 316, u 317, u 318, u 319, u 320, u 321, u 322, u 323, u 324, u 325, u 326, u 327, u 328, u 329, u 330, u 331, u 332, u 333, u 334, u 335, u 336, u 337, u 338, u 339, u 340, u 341, u 342, u 343, u 344, u 345, u 346, u 347, u 348, u 349], []⟩
/-- The frame behind a round. -/
def FrameAt (n m p : Nat) (z : Int) (a : Act) : Prop := a = lit n m p z (fun i => a.tmps.getD i undef)
def WJ (w : World) (B m n D : Nat) (v : Dat) (i j : Nat) (a : Act) (w' : World) : Prop := ∃ z : Int, z = j + 2 ∧ FrameAt n m w.heap.size z a ∧ NInv w B m D v (i + 1) w'

/-- What a round finds. -/
structure RAt (w wr : World) (m n i j : Nat) (v : Dat) (g k nn N c : Nat) (key : ByteArray) : Prop where
  hj : j = 2 * i
  j1 : (j : Int) < (N : Int)
  j2 : (j : Int) + 1 < (N : Int)
  j3 : (j : Int) ≤ 120
  n6 : wr.cell? ⟨n, 6, none⟩ = some (.slice (some ⟨g, 0, none⟩) N c)
  k0 : wr.cell? ⟨g, j, none⟩ = some (.pointer (some ⟨k, 0, none⟩))
  k1 : wr.cell? ⟨g, j + 1, none⟩ = some (.pointer (some ⟨nn, 0, none⟩))
  k3 : wr.cell? ⟨k, 3, none⟩ = some (.string key)
  q0 : wr.cell? ⟨w.heap.size, 0, none⟩ = some (.map (some m))

theorem FieldOk.ptr {S : Nat → Prop} {w : World} {R : Dat → Nat → Prop} {code : Nat} {x : Dat} {f : Value} (h : FieldOk S w R code x f) : ∃ a, f = .pointer (some a) := by
  have pt : ∀ u, PtrTo S w f u → ∃ a, f = .pointer (some a) := fun u ⟨b, o, e, _⟩ => ⟨_, e⟩
  have sl : ∀ z n P, SlicePtr S w z n P f → ∃ a, f = .pointer (some a) := fun z n P ⟨b, v, e, _⟩ => ⟨_, e⟩
  unfold FieldOk at h
  split at h
  · exact pt _ h
  · exact pt _ h
  · exact h
  · exact pt _ h
  · obtain ⟨k, e, -⟩ := h; exact ⟨_, e⟩
  · obtain ⟨k, e, -⟩ := h; exact ⟨_, e⟩
  · obtain ⟨k, e, -⟩ := h; exact ⟨_, e⟩
  · exact sl _ _ _ h
  · exact sl _ _ _ h
  · exact sl _ _ _ h
  · exact sl _ _ _ h
  · obtain ⟨k, e, -⟩ := h; exact ⟨_, e⟩
  · exact sl _ _ _ h
  · exact h

theorem NInv.cell {w wr w4 : World} {B m D i : Nat} {v : Dat} (I : NInv w B m D v i wr) (hB : B ≤ w.heap.size) (hmB : m < B) (hg : wr.grownBy w4 (some m)) (f : Nat) (hf : f < 37) : (∃ old, w4.cell? ⟨w.heap.size, f, none⟩ = some old) ∧ w4.frozen? ⟨w.heap.size, f, none⟩ = false := by
  obtain ⟨cs, h1, h2, -⟩ := I.cells
  have hz := I.size
  have h4 := (hg.block w.heap.size (by omega) (by simp; omega)).trans h1
  exact ⟨⟨cs[f], (blk_cell h4 f).trans (by simp [h2, hf])⟩, blk_frozen h4 f⟩

end Go.Proofs.YtefhboojobfchaaGreatDoor
