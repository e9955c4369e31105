/-
  readFloat: its frames, its statements.
-/
import Derived.Test.YtoeahdefgblmoaaGreatDoorRI
import Derived.Test.YtoeahdefgblmoaaGreatDoorRK
import Derived.Deep.CutBlock
namespace Go.Proofs.YtoeahdefgblmoaaGreatDoor
open Go.RowKit Go.Deep Go.PlainAid Go.Maps Go.Sort

/-- A frame of 253 slots. -/
def hr (xs : Nat → Value) : Act := ⟨#[xs 0, xs 1, xs 2, xs 3, xs 4, xs 5, xs 6, xs 7, xs 8, xs 9, xs 10, xs 11, xs 12, xs 13, xs 14, xs 15, xs 16, xs 17, xs 18, xs 19, xs 20, xs 21, xs 22, xs 23, xs 24, xs 25, xs 26, xs 27, xs 28, xs 29, xs 30, xs 31, xs 32, xs 33, xs 34, xs 35, xs 36, xs 37, xs 38, xs 39, xs 40, xs 41, xs 42, xs 43, xs 44, xs 45, xs 46, xs 47, xs 48, xs 49, xs 50, xs 51, xs 52, xs 53, xs 54, xs 55, xs 56, xs 57, xs 58, xs 59, xs 60, xs 61, xs 62, xs 63, xs 64, xs 65, xs 66, xs 67, xs 68, xs 69, xs 70, xs 71, xs 72, xs 73, xs 74, xs 75, xs 76, xs 77, xs 78, xs 79, xs 80, xs 81, xs 82, xs 83, xs 84, xs 85, xs 86, xs 87, xs 88, xs 89, xs 90, xs 91, xs 92, xs 93, xs 94, xs 95, xs 96, xs 97, xs 98, xs 99, xs 100, xs 101, xs 102, xs 103, xs 104, xs 105, xs 106, xs 107, xs 108, xs 109, xs 110, xs 111, xs 112, xs 113, xs 114, xs 115, xs 116, xs 117, xs 118, xs 119, xs 120, xs 121, xs 122, xs 123, xs 124, xs 125, xs 126, xs 127, xs 128, xs 129, xs 130, xs 131, xs 132, xs 133, xs 134, xs 135, xs 136, xs 137, xs 138, xs 139, xs 140, xs 141, xs 142, xs 143, xs 144, xs 145, xs 146, xs 147, xs 148, xs 149, xs 150, xs 151, xs 152, xs 153, xs 154, xs 155, xs 156, xs 157, xs 158, xs 159, xs 160, xs 161, xs 162, xs 163, xs 164, xs 165, xs 166, xs 167, xs 168, xs 169, xs 170, xs 171, xs 172, xs 173, xs 174, xs 175, xs 176, xs 177, xs 178, xs 179, xs 180, xs 181, xs 182, xs 183, xs 184, xs 185, xs 186, xs 187, xs 188, xs 189, xs 190, xs 191, xs 192, xs 193, xs 194, xs 195, xs 196, xs 197, xs 198, xs 199, xs 200, xs 201, xs 202, xs 203, xs 204, xs 205, xs 206, xs 207, xs 208, xs 209, xs 210, xs 211, xs 212, xs 213, xs 214, xs 215, xs 216, xs 217, xs 218, xs 219, xs 220, xs 221, xs 222, xs 223, xs 224, xs 225, xs 226, xs 227, xs 228, xs 229, xs 230, xs 231, xs 232, xs 233, xs 234, xs 235, xs 236, xs 237, xs 238, xs 239, xs 240, xs 241, xs 242, xs 243, xs 244, xs 245, xs 246, xs 247, xs 248, xs 249, xs 250, xs 251, xs 252], []⟩
set_option maxRecDepth 100000 in
theorem hr_eq (xs : Nat → Value) : hr xs = ⟨((List.range 253).map xs).toArray, []⟩ := by kernel_rfl
theorem act_hr (a : Act) (hs : a.tmps.size = 253) (hd : a.defers = []) : ∃ xs, a = hr xs ∧ ∀ i v, i < 253 → a.tmps[i]? = some v → xs i = v := by
  refine ⟨fun i => a.tmps.getD i .nilIface, ?_, fun i v hi h => ?_⟩
  · exact (act_some a 253 hs hd).trans (hr_eq _).symm
  · have hl : i < a.tmps.size := by rw [hs]; exact hi
    rw [Array.getElem?_eq_getElem hl, Option.some.injEq] at h
    simp only [Array.getD, hl, dif_pos]
    exact h

/-- The block n in the code; the 'if' whose test lies in slot n. -/
def fq (n : Nat) : Code → Option Code
  | .seq a b => match fq n a with
    | some c => some c
    | none => fq n b
  | .cond _ a b => match fq n a with
    | some c => some c
    | none => fq n b
  | .block i b => if i = n then some (.block i b) else fq n b
  | .loop b => fq n b
  | .scope b => fq n b
  | _ => none
def isIf (n : Nat) : Code → Bool
  | .cond (.tmp m) _ _ => m == n
  | _ => false
def fi (n : Nat) : Code → Option Code
  | .seq a b => if isIf n b then some (.seq a b) else match fi n a with
    | some c => some c
    | none => fi n b
  | .cond _ a b => match fi n a with
    | some c => some c
    | none => fi n b
  | .block _ b => fi n b
  | .loop b => fi n b
  | .scope b => fi n b
  | _ => none

/-- What holds of a frame from the label on. -/
structure RF (s : ByteArray) (a : Act) : Prop where
  size : a.tmps.size = 253
  defers : a.defers = []
  s0 : a.tmps[0]? = some (.string s)
  s2 : ∃ v, a.tmps[2]? = some v ∧ isM v
  s3 : ∃ v, a.tmps[3]? = some v ∧ isJ v
  s4 : ∃ v, a.tmps[4]? = some v ∧ isB v
  s5 : ∃ v, a.tmps[5]? = some v ∧ isB v
  s6 : ∃ v, a.tmps[6]? = some v ∧ isB v
  s7 : ∃ v, a.tmps[7]? = some v ∧ isK s.size v
  s8 : ∃ v, a.tmps[8]? = some v ∧ isB v
  s9 : ∃ v, a.tmps[9]? = some v ∧ isB v
  s10 : ∃ v, a.tmps[10]? = some v ∧ isM v
  s11 : ∃ v, a.tmps[11]? = some v ∧ isJ v
  s12 : ∃ v, a.tmps[12]? = some v ∧ isU8 v
  s13 : ∃ v, a.tmps[13]? = some v ∧ isB v
  s14 : ∃ v, a.tmps[14]? = some v ∧ isB v
  s15 : ∃ v, a.tmps[15]? = some v ∧ isJ v
  s16 : ∃ v, a.tmps[16]? = some v ∧ isJ v
  s17 : ∃ v, a.tmps[17]? = some v ∧ isJ v

def RW (s : ByteArray) (w : World) (a : Act) (w' : World) : Prop := RF s a ∧ w = w'
def hasI (a : Act) (i : Nat) : Prop := ∃ x, a.tmps[i]? = some (.int .i64 x)
def iN (a : Act) (i : Nat) : Nat := (intOf (a.tmps.getD i undef)).toNat

/-- What readFloat gives. -/
def isRd (n : Nat) (v : Value) : Prop := ∃ m x ng tr hx k ok, isM m ∧ isJ x ∧ isB ng ∧ isB tr ∧ isB hx ∧ isK n k ∧ isB ok ∧ v = .tuple #[m, x, ng, tr, hx, k, ok]
end Go.Proofs.YtoeahdefgblmoaaGreatDoor
