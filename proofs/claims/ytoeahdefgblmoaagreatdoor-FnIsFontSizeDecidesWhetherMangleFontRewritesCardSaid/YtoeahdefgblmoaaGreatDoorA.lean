/-
  The words of a font's shorthand, as plain tables; tokens and their cells.
-/
import Derived.Test.YtoeahdefgblmoaaGreatDoorProg
import Derived.WalkKit
import Derived.WalkLawsBesides
import Derived.WalkSpells
import Derived.Lib.Hide
import Derived.Deep.QuietTactic
import Derived.BigQuiet
import Derived.Deep.OwnRows
import Derived.Laws.AppendOwn
import Derived.Laws.BytesArg
import Derived.RegionTactic
import Derived.ChangeAlike
import Derived.Deep.DeepFit
import Derived.Handy
import Derived.Outline
namespace Go.Proofs.YtoeahdefgblmoaaGreatDoor
open Go.RowKit Go.Deep

/-- A token: its kind, text, whitespace; the rest of it is empty. -/
structure TK where
  kd : Int
  s : ByteArray
  ws : Int
def TK.vals (t : TK) : List Value := [.pointer none, .string t.s, .int .i32 0, .int .u32 0, .int .u16 0, .int .u8 t.kd, .int .u8 t.ws]
def rowT (l : List TK) : List Value := l.flatMap TK.vals
theorem rowT_len (l : List TK) : (rowT l).length = l.length * 7 := by
  unfold rowT
  induction l with
  | nil => rfl
  | cons a l ih => rw [List.flatMap_cons, List.length_append, ih, List.length_cons]; show 7 + _ = _; omega
theorem rowT_append (a b : List TK) : rowT (a ++ b) = rowT a ++ rowT b := by unfold rowT; rw [List.flatMap_append]
theorem rowT_one (t : TK) : rowT [t] = t.vals := by unfold rowT; rw [List.flatMap_cons, List.flatMap_nil, List.append_nil]
theorem rowT_at : ∀ (l : List TK) (i k : Nat) (hi : i < l.length) (_ : k < 7), (rowT l)[i * 7 + k]? = (l[i]'hi).vals[k]?
  | a :: l, 0, k, _, hk => by
    show (a.vals ++ rowT l)[0 * 7 + k]? = _
    rw [Nat.zero_mul, Nat.zero_add, List.getElem?_append_left (by show k < 7; exact hk)]
    rfl
  | a :: l, i + 1, k, h, hk => by
    show (a.vals ++ rowT l)[(i + 1) * 7 + k]? = _
    rw [List.getElem?_append_right (by show 7 ≤ _; omega), show (i + 1) * 7 + k - a.vals.length = i * 7 + k by show (i + 1) * 7 + k - 7 = _; omega, rowT_at l i k (by simpa using h) hk]
    rfl
theorem vals_one (t : TK) : ∀ u ∈ t.vals, u.oneCell' = true := by
  intro u hu
  simp only [TK.vals, List.mem_cons, List.not_mem_nil, or_false] at hu
  rcases hu with rfl | rfl | rfl | rfl | rfl | rfl | rfl <;> rfl
theorem rowT_ones (l : List TK) : ∀ u ∈ rowT l, u.oneCell' = true := by
  intro u hu
  obtain ⟨t, _, h⟩ := List.mem_flatMap.1 hu
  exact vals_one t u h

/-- The words ahead of the size: kind, text, whether it is dropped, the kind and the text that it becomes. -/
def pwT : Nat → Int × ByteArray × Bool × Int × ByteArray
  | 0 => (29, ⟨#[110, 111, 114, 109, 97, 108]⟩, true, 29, ⟨#[110, 111, 114, 109, 97, 108]⟩)
  | 1 => (29, ⟨#[78, 79, 82, 77, 65, 76]⟩, true, 29, ⟨#[78, 79, 82, 77, 65, 76]⟩)
  | 2 => (29, ⟨#[105, 116, 97, 108, 105, 99]⟩, false, 29, ⟨#[105, 116, 97, 108, 105, 99]⟩)
  | 3 => (29, ⟨#[111, 98, 108, 105, 113, 117, 101]⟩, false, 29, ⟨#[111, 98, 108, 105, 113, 117, 101]⟩)
  | 4 => (29, ⟨#[115, 109, 97, 108, 108, 45, 99, 97, 112, 115]⟩, false, 29, ⟨#[115, 109, 97, 108, 108, 45, 99, 97, 112, 115]⟩)
  | 5 => (29, ⟨#[98, 111, 108, 100]⟩, false, 30, ⟨#[55, 48, 48]⟩)
  | 6 => (29, ⟨#[66, 111, 108, 100]⟩, false, 30, ⟨#[55, 48, 48]⟩)
  | 7 => (29, ⟨#[98, 111, 108, 100, 101, 114]⟩, false, 29, ⟨#[98, 111, 108, 100, 101, 114]⟩)
  | 8 => (29, ⟨#[76, 73, 71, 72, 84, 69, 82]⟩, false, 29, ⟨#[76, 73, 71, 72, 84, 69, 82]⟩)
  | 9 => (29, ⟨#[99, 111, 110, 100, 101, 110, 115, 101, 100]⟩, false, 29, ⟨#[99, 111, 110, 100, 101, 110, 115, 101, 100]⟩)
  | 10 => (29, ⟨#[85, 108, 116, 114, 97, 45, 69, 120, 112, 97, 110, 100, 101, 100]⟩, false, 29, ⟨#[85, 108, 116, 114, 97, 45, 69, 120, 112, 97, 110, 100, 101, 100]⟩)
  | 11 => (30, ⟨#[52, 48, 48]⟩, false, 30, ⟨#[52, 48, 48]⟩)
  | 12 => (30, ⟨#[49]⟩, false, 30, ⟨#[49]⟩)
  | 13 => (30, ⟨#[49, 48, 48, 48]⟩, false, 30, ⟨#[49, 48, 48, 48]⟩)
  | _ => (30, ⟨#[53, 53, 48, 46, 53]⟩, false, 30, ⟨#[53, 53, 48, 46, 53]⟩)
/-- The sizes. -/
def swT : Nat → Int × ByteArray
  | 0 => (26, ⟨#[49, 50, 112, 120]⟩)
  | 1 => (26, ⟨#[49, 46, 53, 101, 109]⟩)
  | 2 => (34, ⟨#[56, 48, 37]⟩)
  | 3 => (29, ⟨#[109, 101, 100, 105, 117, 109]⟩)
  | 4 => (29, ⟨#[88, 45, 76, 65, 82, 71, 69]⟩)
  | _ => (29, ⟨#[115, 109, 97, 108, 108, 101, 114]⟩)
/-- The line heights. -/
def lwT : Nat → Int × ByteArray
  | 0 => (30, ⟨#[49, 46, 50]⟩)
  | 1 => (26, ⟨#[50, 48, 112, 120]⟩)
  | 2 => (29, ⟨#[110, 111, 114, 109, 97, 108]⟩)
  | _ => (34, ⟨#[49, 53, 48, 37]⟩)
/-- The families. -/
def fwT : Nat → ByteArray
  | 0 => ⟨#[115, 101, 114, 105, 102]⟩
  | 1 => ⟨#[115, 97, 110, 115, 45, 115, 101, 114, 105, 102]⟩
  | 2 => ⟨#[109, 111, 110, 111, 115, 112, 97, 99, 101]⟩
  | _ => ⟨#[99, 117, 114, 115, 105, 118, 101]⟩
end Go.Proofs.YtoeahdefgblmoaaGreatDoor
