/-
  A frame told slot by slot: 'G a j' is what slot j of a holds; a frame of n slots is the list of them.
-/
import Derived.Test.YtgomodhhomekpaaWd
namespace Go.Proofs.Ytgomodhhomekpaa
open Go.RowKit

def G (a : Act) (j : Nat) : Value := a.tmps.getD j undef
/-- n slots, nothing deferred. -/
def Frm (n : Nat) (a : Act) : Prop := a.tmps.size = n ∧ a.defers = []
def fromJ (a : Act) : Nat → Nat → List Value
  | 0, _ => []
  | f + 1, j => G a j :: fromJ a f (j + 1)
theorem fromJ_length (a : Act) (f : Nat) : ∀ j, (fromJ a f j).length = f := by
  induction f with
  | zero => intro j; rfl
  | succ f ih => intro j; simp [fromJ, ih]
theorem fromJ_get (a : Act) (f : Nat) : ∀ j i, i < f → (fromJ a f j)[i]? = some (G a (j + i)) := by
  induction f with
  | zero => intro j i h; omega
  | succ f ih =>
    intro j i h
    cases i with
    | zero => simp [fromJ]
    | succ i => simp only [fromJ, List.getElem?_cons_succ]; rw [ih (j + 1) i (by omega)]; congr 2; omega
theorem lit_of {n : Nat} (a : Act) (h : Frm n a) : a = ⟨(fromJ a n 0).toArray, []⟩ := by
  obtain ⟨tmps, ds⟩ := a
  obtain ⟨h1, h2⟩ := h
  simp only at h1 h2
  subst h2
  congr 1
  apply Array.ext
  · simp [fromJ_length, h1]
  · intro i hi _
    have e := fromJ_get ⟨tmps, []⟩ n 0 i (by omega)
    rw [List.getElem?_eq_getElem (by rw [fromJ_length]; omega)] at e
    have e2 := Option.some.inj e
    simp only [List.getElem_toArray]
    rw [e2]
    simp [G, Array.getD, hi]

set_option maxRecDepth 100000 in
theorem lit283 (a : Act) (h : Frm 283 a) : a = ⟨#[G a 0, G a 1, G a 2, G a 3, G a 4, G a 5, G a 6, G a 7, G a 8, G a 9, G a 10, G a 11, G a 12, G a 13, G a 14, G a 15, G a 16, G a 17, G a 18, G a 19, G a 20, G a 21, G a 22, G a 23, G a 24, G a 25, G a 26, G a 27, G a 28, G a 29, G a 30, G a 31, G a 32, G a 33, G a 34, G a 35, G a 36, G a 37, G a 38, G a 39, G a 40, G a 41, G a 42, G a 43, G a 44, G a 45, G a 46, G a 47, G a 48, G a 49, G a 50, G a 51, G a 52, G a 53, G a 54, G a 55, G a 56, G a 57, G a 58, G a 59, G a 60, G a 61, G a 62, G a 63, G a 64, G a 65, G a 66, G a 67, G a 68, G a 69, G a 70, G a 71, G a 72, G a 73, G a 74, G a 75, G a 76, G a 77, G a 78, G a 79, G a 80, G a 81, G a 82, G a 83, G a 84, G a 85, G a 86, G a 87, G a 88, G a 89, G a 90, G a 91, G a 92, G a 93, G a 94, G a 95, G a 96, G a 97, G a 98, G a 99, G a 100, G a 101, G a 102, G a 103, G a 104, G a 105, G a 106, G a 107, G a 108, G a 109, G a 110, G a 111, G a 112, G a 113, G a 114, G a 115, G a 116, G a 117, G a 118, G a 119, G a 120, G a 121, G a 122, G a 123, G a 124, G a 125, G a 126, G a 127, G a 128, G a 129, G a 130, G a 131, G a 132, G a 133, G a 134, G a 135, G a 136, G a 137, G a 138, G a 139, G a 140, G a 141, G a 142, G a 143, G a 144, G a 145, G a 146, G a 147, G a 148, G a 149, G a 150, G a 151, G a 152, G a 153, G a 154, G a 155, G a 156, G a 157, G a 158, G a 159, G a 160, G a 161, G a 162, G a 163, G a 164, G a 165, G a 166, G a 167, G a 168, G a 169, G a 170, G a 171, G a 172, G a 173, G a 174, G a 175, G a 176, G a 177, G a 178, G a 179, G a 180, G a 181, G a 182, G a 183, G a 184, G a 185, G a 186, G a 187, G a 188, G a 189, G a 190, G a 191, G a 192, G a 193, G a 194, G a 195, G a 196, G a 197, G a 198, G a 199, G a 200, G a 201, G a 202, G a 203, G a 204, G a 205, G a 206, G a 207, G a 208, G a 209, G a 210, G a 211, G a 212, G a 213, G a 214, G a 215, G a 216, G a 217, G a 218, G a 219, G a 220, G a 221, G a 222, G a 223, G a 224, G a 225, G a 226, G a 227, G a 228, G a 229, G a 230, G a 231, G a 232, G a 233, G a 234, G a 235, G a 236, G a 237, G a 238, G a 239, G a 240, G a 241, G a 242, G a 243, G a 244, G a 245, G a 246, G a 247, G a 248, G a 249, G a 250, G a 251, G a 252, G a 253, G a 254, G a 255, G a 256, G a 257, G a 258, G a 259, G a 260, G a 261, G a 262, G a 263, G a 264, G a 265, G a 266, G a 267, G a 268, G a 269, G a 270, G a 271, G a 272, G a 273, G a 274, G a 275, G a 276, G a 277, G a 278, G a 279, G a 280, G a 281, G a 282], []⟩ := lit_of a h
set_option maxRecDepth 100000 in
theorem lit104 (a : Act) (h : Frm 104 a) : a = ⟨#[G a 0, G a 1, G a 2, G a 3, G a 4, G a 5, G a 6, G a 7, G a 8, G a 9, G a 10, G a 11, G a 12, G a 13, G a 14, G a 15, G a 16, G a 17, G a 18, G a 19, G a 20, G a 21, G a 22, G a 23, G a 24, G a 25, G a 26, G a 27, G a 28, G a 29, G a 30, G a 31, G a 32, G a 33, G a 34, G a 35, G a 36, G a 37, G a 38, G a 39, G a 40, G a 41, G a 42, G a 43, G a 44, G a 45, G a 46, G a 47, G a 48, G a 49, G a 50, G a 51, G a 52, G a 53, G a 54, G a 55, G a 56, G a 57, G a 58, G a 59, G a 60, G a 61, G a 62, G a 63, G a 64, G a 65, G a 66, G a 67, G a 68, G a 69, G a 70, G a 71, G a 72, G a 73, G a 74, G a 75, G a 76, G a 77, G a 78, G a 79, G a 80, G a 81, G a 82, G a 83, G a 84, G a 85, G a 86, G a 87, G a 88, G a 89, G a 90, G a 91, G a 92, G a 93, G a 94, G a 95, G a 96, G a 97, G a 98, G a 99, G a 100, G a 101, G a 102, G a 103], []⟩ := lit_of a h
set_option maxRecDepth 100000 in
theorem lit95 (a : Act) (h : Frm 95 a) : a = ⟨#[G a 0, G a 1, G a 2, G a 3, G a 4, G a 5, G a 6, G a 7, G a 8, G a 9, G a 10, G a 11, G a 12, G a 13, G a 14, G a 15, G a 16, G a 17, G a 18, G a 19, G a 20, G a 21, G a 22, G a 23, G a 24, G a 25, G a 26, G a 27, G a 28, G a 29, G a 30, G a 31, G a 32, G a 33, G a 34, G a 35, G a 36, G a 37, G a 38, G a 39, G a 40, G a 41, G a 42, G a 43, G a 44, G a 45, G a 46, G a 47, G a 48, G a 49, G a 50, G a 51, G a 52, G a 53, G a 54, G a 55, G a 56, G a 57, G a 58, G a 59, G a 60, G a 61, G a 62, G a 63, G a 64, G a 65, G a 66, G a 67, G a 68, G a 69, G a 70, G a 71, G a 72, G a 73, G a 74, G a 75, G a 76, G a 77, G a 78, G a 79, G a 80, G a 81, G a 82, G a 83, G a 84, G a 85, G a 86, G a 87, G a 88, G a 89, G a 90, G a 91, G a 92, G a 93, G a 94], []⟩ := lit_of a h
set_option maxRecDepth 100000 in
theorem lit81 (a : Act) (h : Frm 81 a) : a = ⟨#[G a 0, G a 1, G a 2, G a 3, G a 4, G a 5, G a 6, G a 7, G a 8, G a 9, G a 10, G a 11, G a 12, G a 13, G a 14, G a 15, G a 16, G a 17, G a 18, G a 19, G a 20, G a 21, G a 22, G a 23, G a 24, G a 25, G a 26, G a 27, G a 28, G a 29, G a 30, G a 31, G a 32, G a 33, G a 34, G a 35, G a 36, G a 37, G a 38, G a 39, G a 40, G a 41, G a 42, G a 43, G a 44, G a 45, G a 46, G a 47, G a 48, G a 49, G a 50, G a 51, G a 52, G a 53, G a 54, G a 55, G a 56, G a 57, G a 58, G a 59, G a 60, G a 61, G a 62, G a 63, G a 64, G a 65, G a 66, G a 67, G a 68, G a 69, G a 70, G a 71, G a 72, G a 73, G a 74, G a 75, G a 76, G a 77, G a 78, G a 79, G a 80], []⟩ := lit_of a h
set_option maxRecDepth 100000 in
theorem lit28 (a : Act) (h : Frm 28 a) : a = ⟨#[G a 0, G a 1, G a 2, G a 3, G a 4, G a 5, G a 6, G a 7, G a 8, G a 9, G a 10, G a 11, G a 12, G a 13, G a 14, G a 15, G a 16, G a 17, G a 18, G a 19, G a 20, G a 21, G a 22, G a 23, G a 24, G a 25, G a 26, G a 27], []⟩ := lit_of a h
set_option maxRecDepth 100000 in
theorem lit23 (a : Act) (h : Frm 23 a) : a = ⟨#[G a 0, G a 1, G a 2, G a 3, G a 4, G a 5, G a 6, G a 7, G a 8, G a 9, G a 10, G a 11, G a 12, G a 13, G a 14, G a 15, G a 16, G a 17, G a 18, G a 19, G a 20, G a 21, G a 22], []⟩ := lit_of a h

/-- The body of the first loop of a code. -/
def firstLoop : Code → Option Code
  | .loop c => some c
  | .seq a b => match firstLoop a with
    | some c => some c
    | none => firstLoop b
  | .block _ c => firstLoop c
  | .scope c => firstLoop c
  | .cond _ a b => match firstLoop a with
    | some c => some c
    | none => firstLoop b
  | _ => none
/-- A part of a code: 'false' to the left ('then', a body), 'true' to the right ('else'). -/
def part : Code → List Bool → Code
  | c, [] => c
  | .seq a b, d :: p => part (if d then b else a) p
  | .cond _ a b, d :: p => part (if d then b else a) p
  | .block _ c, _ :: p => part c p
  | .loop c, _ :: p => part c p
  | .scope c, _ :: p => part c p
  | c, _ => c
/-- The listed slots of a' hold what those of a hold. -/
def Same : List Nat → Act → Act → Prop
  | [], _, _ => True
  | j :: l, a, a' => G a' j = G a j ∧ Same l a a'
theorem Same.get {a a' : Act} : ∀ {l : List Nat}, Same l a a' → ∀ j, l.contains j = true → G a' j = G a j
  | [], _, j, hj => by simp at hj
  | i :: l, h, j, hj => by
    by_cases e : j = i
    · subst e; exact h.1
    · exact h.2.get j (by simpa [e] using hj)
def bodyOf (f : Func) : Code := f.body.getD .skip
def loopIn (c : Code) : Code := (firstLoop c).getD .skip
end Go.Proofs.Ytgomodhhomekpaa
