/-
  THE GROUND OF THE WALKS over seat b6601687a: a frame as a literal array; a part of a body by its path.
-/
import Derived.Test.Qxb6601687aProg
import Derived.WalkKit
import Derived.WalkSpells
import Derived.WalkLawsBesides
import Derived.Deep.QuietTactic
import Derived.BigQuiet
namespace Go.Proofs.Qxb6601687a
open Go.RowKit

/-- what slot t holds -/
def get (a : Act) (t : Nat) : Value := a.tmps.getD t undef

theorem act_eq (a : Act) (N : Nat) (hd : a.defers = []) (hs : a.tmps.size = N) : a = ⟨((List.range N).map (get a)).toArray, []⟩ := by
  obtain ⟨t, d⟩ := a
  simp only at hd hs
  subst hd
  congr 1
  apply Array.ext
  · simp [hs]
  · intro i h1 h2
    simp [get, h1]

/-- a part of a body: true: what stands behind in a sequence; false: its head, or what a block or a loop holds -/
def cl : Code → Code
  | .seq a _ => a
  | .block _ c => c
  | .loop c => c
  | c => c
def cr : Code → Code
  | .seq _ b => b
  | c => c
def sub : List Bool → Code → Code
  | [], c => c
  | false :: p, c => sub p (cl c)
  | true :: p, c => sub p (cr c)
def bodyOf (f : Func) : Code := f.body.getD .skip

set_option maxRecDepth 100000 in
theorem lit33 (a : Act) (hd : a.defers = []) (hs : a.tmps.size = 437) : a = ⟨#[get a 0, get a 1, get a 2, get a 3, get a 4, get a 5, get a 6, get a 7, get a 8, get a 9, get a 10, get a 11, get a 12, get a 13, get a 14, get a 15, get a 16, get a 17, get a 18, get a 19, get a 20, get a 21, get a 22, get a 23, get a 24, get a 25, get a 26, get a 27, get a 28, get a 29, get a 30, get a 31, get a 32, get a 33, get a 34, get a 35, get a 36, get a 37, get a 38, get a 39, get a 40, get a 41, get a 42, get a 43, get a 44, get a 45, get a 46, get a 47, get a 48, get a 49, get a 50, get a 51, get a 52, get a 53, get a 54, get a 55, get a 56, get a 57, get a 58, get a 59, get a 60, get a 61, get a 62, get a 63, get a 64, get a 65, get a 66, get a 67, get a 68, get a 69, get a 70, get a 71, get a 72, get a 73, get a 74, get a 75, get a 76, get a 77, get a 78, get a 79, get a 80, get a 81, get a 82, get a 83, get a 84, get a 85, get a 86, get a 87, get a 88, get a 89, get a 90, get a 91, get a 92, get a 93, get a 94, get a 95, get a 96, get a 97, get a 98, get a 99, get a 100, get a 101, get a 102, get a 103, get a 104, get a 105, get a 106, get a 107, get a 108, get a 109, get a 110, get a 111, get a 112, get a 113, get a 114, get a 115, get a 116, get a 117, get a 118, get a 119, get a 120, get a 121, get a 122, get a 123, get a 124, get a 125, get a 126, get a 127, get a 128, get a 129, get a 130, get a 131, get a 132, get a 133, get a 134, get a 135, get a 136, get a 137, get a 138, get a 139, get a 140, get a 141, get a 142, get a 143, get a 144, get a 145, get a 146, get a 147, get a 148, get a 149, get a 150, get a 151, get a 152, get a 153, get a 154, get a 155, get a 156, get a 157, get a 158, get a 159, get a 160, get a 161, get a 162, get a 163, get a 164, get a 165, get a 166, get a 167, get a 168, get a 169, get a 170, get a 171, get a 172, get a 173, get a 174, get a 175, get a 176, get a 177, get a 178, get a 179, get a 180, get a 181, get a 182, get a 183, get a 184, get a 185, get a 186, get a 187, get a 188, get a 189, get a 190, get a 191, get a 192, get a 193, get a 194, get a 195, get a 196, get a 197, get a 198, get a 199, get a 200, get a 201, get a 202, get a 203, get a 204, get a 205, get a 206, get a 207, get a 208, get a 209, get a 210, get a 211, get a 212, get a 213, get a 214, get a 215, get a 216, get a 217, get a 218, get a 219, get a 220, get a 221, get a 222, get a 223, get a 224, get a 225, get a 226, get a 227, get a 228, get a 229, get a 230, get a 231, get a 232, get a 233, get a 234, get a 235, get a 236, get a 237, get a 238, get a 239, get a 240, get a 241, get a 242, get a 243, get a 244, get a 245, get a 246, get a 247, get a 248, get a 249, get a 250, get a 251, get a 252, get a 253, get a 254, get a 255, get a 256, get a 257, get a 258, get a 259, get a 260, get a 261, get a 262, get a 263, get a 264, get a 265, get a 266, get a 267, get a 268, get a 269, get a 270, get a 271, get a 272, get a 273, get a 274, get a 275, get a 276, get a 277, get a 278, get a 279, get a 280, get a 281, get a 282, get a 283, get a 284, get a 285, get a 286, get a 287, get a 288, get a 289, get a 290, get a 291, get a 292, get a 293, get a 294, get a 295, get a 296, get a 297, get a 298, get a 299, get a 300, get a 301, get a 302, get a 303, get a 304, get a 305, get a 306, get a 307, get a 308, get a 309, get a 310, get a 311, get a 312, get a 313, get a 314, get a 315, get a 316, get a 317, get a 318, get a 319, get a 320, get a 321, get a 322, get a 323, get a 324, get a 325, get a 326, get a 327, get a 328, get a 329, get a 330, get a 331, get a 332, get a 333, get a 334, get a 335, get a 336, get a 337, get a 338, get a 339, get a 340, get a 341, get a 342, get a 343, get a 344, get a 345, get a 346, get a 347, get a 348, get a 349, get a 350, get a 351, get a 352, get a 353, get a 354, get a 355, get a 356, get a 357, get a 358, get a 359, get a 360, get a 361, get a 362, get a 363, get a 364, get a 365, get a 366, get a 367, get a 368, get a 369, get a 370, get a 371, get a 372, get a 373, get a 374, get a 375, get a 376, get a 377, get a 378, get a 379, get a 380, get a 381, get a 382, get a 383, get a 384, get a 385, get a 386, get a 387, get a 388, get a 389, get a 390, get a 391, get a 392, get a 393, get a 394, get a 395, get a 396, get a 397, get a 398, get a 399, get a 400, get a 401, get a 402, get a 403, get a 404, get a 405, get a 406, get a 407, get a 408, get a 409, get a 410, get a 411, get a 412, get a 413, get a 414, get a 415, get a 416, get a 417, get a 418, get a 419, get a 420, get a 421, get a 422, get a 423, get a 424, get a 425, get a 426, get a 427, get a 428, get a 429, get a 430, get a 431, get a 432, get a 433, get a 434, get a 435, get a 436], []⟩ := act_eq a 437 hd hs

end Go.Proofs.Qxb6601687a
