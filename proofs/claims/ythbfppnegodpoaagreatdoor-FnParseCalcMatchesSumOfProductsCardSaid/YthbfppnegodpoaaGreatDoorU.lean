/-
  Frames as functions: a walk of one block over whatever frame.
-/
import Derived.Test.YthbfppnegodpoaaGreatDoorT
import Derived.Deep.CutBlock
namespace Go.Proofs.YthbfppnegodpoaaGreatDoor
open Go.RowKit Go.Deep Go.PlainAid

/-- A frame of 529 slots. -/
def fr (xs : Nat → Value) : Act := ⟨#[xs 0, xs 1, xs 2, xs 3, xs 4, xs 5, xs 6, xs 7, xs 8, xs 9, xs 10, xs 11, xs 12, xs 13, xs 14, xs 15, xs 16, xs 17, xs 18, xs 19, xs 20, xs 21, xs 22, xs 23, xs 24, xs 25, xs 26, xs 27, xs 28, xs 29, xs 30, xs 31, xs 32, xs 33, xs 34, xs 35, xs 36, xs 37, xs 38, xs 39, xs 40, xs 41, xs 42, xs 43, xs 44, xs 45, xs 46, xs 47, xs 48, xs 49, xs 50, xs 51, xs 52, xs 53, xs 54, xs 55, xs 56, xs 57, xs 58, xs 59, xs 60, xs 61, xs 62, xs 63, xs 64, xs 65, xs 66, xs 67, xs 68, xs 69, xs 70, xs 71, xs 72, xs 73, xs 74, xs 75, xs 76, xs 77, xs 78, xs 79, xs 80, xs 81, xs 82, xs 83, xs 84, xs 85, xs 86, xs 87, xs 88, xs 89, xs 90, xs 91, xs 92, xs 93, xs 94, xs 95, xs 96, xs 97, xs 98, xs 99, xs 100, xs 101, xs 102, xs 103, xs 104, xs 105, xs 106, xs 107, xs 108, xs 109, xs 110, xs 111, xs 112, xs 113, xs 114, xs 115, xs 116, xs 117, xs 118, xs 119, xs 120, xs 121, xs 122, xs 123, xs 124, xs 125, xs 126, xs 127, xs 128, xs 129, xs 130, xs 131, xs 132, xs 133, xs 134, xs 135, xs 136, xs 137, xs 138, xs 139, xs 140, xs 141, xs 142, xs 143, xs 144, xs 145, xs 146, xs 147, xs 148, xs 149, xs 150, xs 151, xs 152, xs 153, xs 154, xs 155, xs 156, xs 157, xs 158, xs 159, xs 160, xs 161, xs 162, xs 163, xs 164, xs 165, xs 166, xs 167, xs 168, xs 169, xs 170, xs 171, xs 172, xs 173, xs 174, xs 175, xs 176, xs 177, xs 178, xs 179, xs 180, xs 181, xs 182, xs 183, xs 184, xs 185, xs 186, xs 187, xs 188, xs 189, xs 190, xs 191, xs 192, xs 193, xs 194, xs 195, xs 196, xs 197, xs 198, xs 199, xs 200, xs 201, xs 202, xs 203, xs 204, xs 205, xs 206, xs 207, xs 208, xs 209, xs 210, xs 211, xs 212, xs 213, xs 214, xs 215, xs 216, xs 217, xs 218, xs 219, xs 220, xs 221, xs 222, xs 223, xs 224, xs 225, xs 226, xs 227, xs 228, xs 229, xs 230, xs 231, xs 232, xs 233, xs 234, xs 235, xs 236, xs 237, xs 238, xs 239, xs 240, xs 241, xs 242, xs 243, xs 244, xs 245, xs 246, xs 247, xs 248, xs 249, xs 250, xs 251, xs 252, xs 253, xs 254, xs 255, xs 256, xs 257, xs 258, xs 259, xs 260, xs 261, xs 262, xs 263, xs 264, xs 265, xs 266, xs 267, xs 268, xs 269, xs 270, xs 271, xs 272, xs 273, xs 274, xs 275, xs 276, xs 277, xs 278, xs 279, xs 280, xs 281, xs 282, xs 283, xs 284, xs 285, xs 286, xs 287, xs 288, xs 289, xs 290, xs 291, xs 292, xs 293, xs 294, xs 295, xs 296, xs 297, xs 298, xs 299, xs 300, xs 301, xs 302, xs 303, xs 304, xs 305, xs 306, xs 307, xs 308, xs 309, xs 310, xs 311, xs 312, xs 313, xs 314, xs 315, xs 316, xs 317, xs 318, xs 319, xs 320, xs 321, xs 322, xs 323, xs 324, xs 325, xs 326, xs 327, xs 328, xs 329, xs 330, xs 331, xs 332, xs 333, xs 334, xs 335, xs 336, xs 337, xs 338, xs 339, xs 340, xs 341, xs 342, xs 343, xs 344, xs 345, xs 346, xs 347, xs 348, xs 349, xs 350, xs 351, xs 352, xs 353, xs 354, xs 355, xs 356, xs 357, xs 358, xs 359, xs 360, xs 361, xs 362, xs 363, xs 364, xs 365, xs 366, xs 367, xs 368, xs 369, xs 370, xs 371, xs 372, xs 373, xs 374, xs 375, xs 376, xs 377, xs 378, xs 379, xs 380, xs 381, xs 382, xs 383, xs 384, xs 385, xs 386, xs 387, xs 388, xs 389, xs 390, xs 391, xs 392, xs 393, xs 394, xs 395, xs 396, xs 397, xs 398, xs 399, xs 400, xs 401, xs 402, xs 403, xs 404, xs 405, xs 406, xs 407, xs 408, xs 409, xs 410, xs 411, xs 412, xs 413, xs 414, xs 415, xs 416, xs 417, xs 418, xs 419, xs 420, xs 421, xs 422, xs 423, xs 424, xs 425, xs 426, xs 427, xs 428, xs 429, xs 430, xs 431, xs 432, xs 433, xs 434, xs 435, xs 436, xs 437, xs 438, xs 439, xs 440, xs 441, xs 442, xs 443, xs 444, xs 445, xs 446, xs 447, xs 448, xs 449, xs 450, xs 451, xs 452, xs 453, xs 454, xs 455, xs 456, xs 457, xs 458, xs 459, xs 460, xs 461, xs 462, xs 463, xs 464, xs 465, xs 466, xs 467, xs 468, xs 469, xs 470, xs 471, xs 472, xs 473, xs 474, xs 475, xs 476, xs 477, xs 478, xs 479, xs 480, xs 481, xs 482, xs 483, xs 484, xs 485, xs 486, xs 487, xs 488, xs 489, xs 490, xs 491, xs 492, xs 493, xs 494, xs 495, xs 496, xs 497, xs 498, xs 499, xs 500, xs 501, xs 502, xs 503, xs 504, xs 505, xs 506, xs 507, xs 508, xs 509, xs 510, xs 511, xs 512, xs 513, xs 514, xs 515, xs 516, xs 517, xs 518, xs 519, xs 520, xs 521, xs 522, xs 523, xs 524, xs 525, xs 526, xs 527, xs 528], []⟩

set_option maxRecDepth 100000 in
theorem fr_eq (xs : Nat → Value) : fr xs = ⟨((List.range 529).map xs).toArray, []⟩ := by kernel_rfl

theorem act_any (a : Act) (n : Nat) (hs : a.tmps.size = n) (hd : a.defers = []) : a = ⟨((List.range n).map fun i => a.tmps.getD i .nilIface).toArray, []⟩ := by
  obtain ⟨t, d⟩ := a
  simp only at hs hd ⊢
  subst hd
  congr 1
  apply Array.ext
  · simp [hs]
  · intro i h1 h2
    simp [Array.getD, h1]

theorem act_fr (a : Act) (hs : a.tmps.size = 529) (hd : a.defers = []) : ∃ xs, a = fr xs ∧ ∀ i v, i < 529 → a.tmps[i]? = some v → xs i = v := by
  refine ⟨fun i => a.tmps.getD i .nilIface, ?_, fun i v hi h => ?_⟩
  · exact (act_any a 529 hs hd).trans (fr_eq _).symm
  · have hl : i < a.tmps.size := by rw [hs]; exact hi
    rw [Array.getElem?_eq_getElem hl, Option.some.injEq] at h
    simp only [Array.getD, hl, dif_pos]
    exact h

/-- The block n in the code. -/
def fb (n : Nat) : Code → Option Code
  | .seq a b => match fb n a with
    | some c => some c
    | none => fb n b
  | .cond _ a b => match fb n a with
    | some c => some c
    | none => fb n b
  | .block i b => if i = n then some (.block i b) else fb n b
  | .loop b => fb n b
  | _ => none
end Go.Proofs.YthbfppnegodpoaaGreatDoor
