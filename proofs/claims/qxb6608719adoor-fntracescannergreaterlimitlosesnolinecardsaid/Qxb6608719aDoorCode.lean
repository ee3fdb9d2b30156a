/-
  THE LOOP OF (*bufio.Scanner).Scan, TAKEN OUT OF THE TRANSLATION; its statements one by one; the frame.
-/
import Derived.Test.Qxb6608719aDoorState
namespace Go.Proofs.Qxb6608719aDoor.Sc
open Go.RowKit

def firstLoop : Code → Option Code
  | .loop c => some c
  | .seq a b => match firstLoop a with
    | some c => some c
    | none => firstLoop b
  | .block _ c => firstLoop c
  | .scope c => firstLoop c
  | .cond _ a b => match firstLoop a with
    | some c => some c
    | none => firstLoop b
  | _ => none
def seqHead : Code → Code
  | .seq a _ => a
  | c => c
def seqTail : Code → Code
  | .seq _ b => b
  | c => c
def unblock : Code → Code
  | .block _ c => c
  | c => c
/-- the k-th statement of a sequence that ends behind n of them -/
def nth : Nat → Code → Code
  | 0, c => seqHead c
  | k + 1, c => nth k (seqTail c)
def rest : Nat → Code → Code
  | 0, c => c
  | k + 1, c => rest k (seqTail c)

/-- A frame of Scan: the receiver's slot, and whatever else. -/
def fr (v : Value) (u : Nat → Value) : Array Value := #[v, u 1, u 2, u 3, u 4, u 5, u 6, u 7, u 8, u 9, u 10, u 11, u 12, u 13, u 14, u 15, u 16, u 17, u 18, u 19, u 20, u 21, u 22, u 23, u 24, u 25, u 26, u 27, u 28, u 29, u 30, u 31, u 32, u 33, u 34, u 35, u 36, u 37, u 38, u 39, u 40, u 41, u 42, u 43, u 44, u 45, u 46, u 47, u 48, u 49, u 50, u 51, u 52, u 53, u 54, u 55, u 56, u 57, u 58, u 59, u 60, u 61, u 62, u 63, u 64, u 65, u 66, u 67, u 68, u 69, u 70, u 71, u 72, u 73, u 74, u 75, u 76, u 77, u 78, u 79, u 80, u 81, u 82, u 83, u 84, u 85, u 86, u 87, u 88, u 89, u 90, u 91, u 92, u 93, u 94, u 95, u 96, u 97, u 98, u 99, u 100, u 101, u 102, u 103, u 104, u 105, u 106, u 107, u 108, u 109, u 110, u 111, u 112, u 113, u 114, u 115, u 116, u 117, u 118, u 119, u 120, u 121, u 122, u 123, u 124, u 125, u 126, u 127, u 128, u 129, u 130, u 131, u 132, u 133, u 134, u 135, u 136, u 137, u 138, u 139, u 140, u 141, u 142, u 143, u 144, u 145, u 146, u 147, u 148, u 149, u 150, u 151, u 152, u 153, u 154, u 155, u 156, u 157, u 158, u 159, u 160, u 161, u 162, u 163, u 164, u 165, u 166, u 167, u 168, u 169, u 170, u 171, u 172, u 173, u 174, u 175, u 176, u 177, u 178, u 179, u 180, u 181, u 182, u 183, u 184, u 185, u 186, u 187, u 188, u 189, u 190, u 191, u 192, u 193, u 194, u 195, u 196, u 197, u 198, u 199, u 200, u 201, u 202, u 203, u 204, u 205, u 206, u 207, u 208, u 209, u 210, u 211, u 212, u 213, u 214, u 215, u 216, u 217, u 218, u 219, u 220, u 221, u 222, u 223, u 224, u 225, u 226, u 227, u 228, u 229, u 230, u 231, u 232, u 233, u 234, u 235, u 236, u 237, u 238, u 239, u 240, u 241, u 242, u 243, u 244, u 245, u 246, u 247, u 248, u 249, u 250, u 251, u 252, u 253, u 254, u 255, u 256, u 257, u 258, u 259, u 260, u 261, u 262, u 263, u 264, u 265, u 266, u 267, u 268, u 269, u 270, u 271, u 272, u 273, u 274, u 275, u 276, u 277, u 278, u 279, u 280, u 281, u 282, u 283, u 284, u 285, u 286, u 287, u 288, u 289, u 290, u 291, u 292, u 293, u 294, u 295, u 296, u 297, u 298, u 299, u 300, u 301, u 302, u 303, u 304, u 305, u 306, u 307, u 308, u 309, u 310, u 311, u 312, u 313, u 314, u 315, u 316, u 317, u 318, u 319, u 320, u 321, u 322, u 323, u 324, u 325, u 326, u 327, u 328, u 329, u 330, u 331, u 332, u 333]

structure Fr (v : Value) (a : Act) : Prop where
  defers : a.defers = []
  size : a.tmps.size = 334
  recv : a.tmps[0]? = some v

theorem list_out (l : List Value) (d : Value) (n : Nat) (h : l.length = n) : l = (List.range n).map (fun i => l.getD i d) := by
  apply List.ext_getElem
  · simp [h]
  · intro i h1 h2
    simp [List.getD, h1]

set_option maxRecDepth 100000 in
theorem fr_of (v : Value) (a : Act) (h : Fr v a) : ∃ u, a = ⟨fr v u, []⟩ := by
  obtain ⟨⟨l⟩, ds⟩ := a
  obtain ⟨h1, h2, h3⟩ := h
  have h2' : l.length = 334 := h2
  have h3' : l.getD 0 undef = v := by
    have : l[0]? = some v := by simpa using h3
    rw [List.getD, this]; rfl
  refine ⟨fun i => l.getD i undef, ?_⟩
  have hl := list_out l undef 334 h2'
  have e : (List.range 334).map (fun i => l.getD i undef) = (fr (l.getD 0 undef) (fun i => l.getD i undef)).toList := by rfl
  rw [e, h3'] at hl
  have hd : ds = [] := h1
  rw [hd]
  generalize hq : fr v (fun i => l.getD i undef) = q at hl ⊢
  obtain ⟨q⟩ := q
  have : l = q := hl
  rw [this]

end Go.Proofs.Qxb6608719aDoor.Sc
