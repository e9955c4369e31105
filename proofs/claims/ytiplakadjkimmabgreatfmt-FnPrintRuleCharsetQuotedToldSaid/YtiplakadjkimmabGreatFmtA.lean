/-
  Distinct texts, in order of first occurrence; the set of them as a map's datum.
-/
import Derived.Maps.OwnSet
import Derived.WalkKit
namespace Go.Proofs.YtiplakadjkimmabGreatFmt
open Go.RowKit Go.Maps

instance : DecidableEq ByteArray := fun a b => if h : a.data = b.data then isTrue (by cases a; cases b; simp at h; rw [h]) else isFalse (fun e => h (by rw [e]))

/-- Is the text on the list? -/
def inB (l : List ByteArray) (x : ByteArray) : Bool := l.any fun y => decide (y = x)
theorem inB_iff (l : List ByteArray) (x : ByteArray) : inB l x = true ↔ x ∈ l := by
  unfold inB
  simp only [List.any_eq_true, decide_eq_true_eq]
  exact ⟨fun ⟨y, hy, e⟩ => e ▸ hy, fun h => ⟨x, h, rfl⟩⟩

/-- The distinct texts, in order of first occurrence. -/
def ded (l : List ByteArray) : List ByteArray := l.foldl (fun acc x => if inB acc x then acc else acc ++ [x]) []

theorem ded_nil : ded [] = [] := rfl
theorem ded_snoc (l : List ByteArray) (x : ByteArray) : ded (l ++ [x]) = if inB (ded l) x then ded l else ded l ++ [x] := by
  unfold ded
  rw [List.foldl_append]
  rfl
theorem ded_old {l : List ByteArray} {x : ByteArray} (h : inB (ded l) x = true) : ded (l ++ [x]) = ded l := by rw [ded_snoc, if_pos h]
theorem ded_new {l : List ByteArray} {x : ByteArray} (h : inB (ded l) x = false) : ded (l ++ [x]) = ded l ++ [x] := by rw [ded_snoc, if_neg (by rw [h]; exact Bool.false_ne_true)]

/-- What a text is as a key. -/
def lit (s : ByteArray) : Lit := .string s.data.toList
theorem lit_inj {a b : ByteArray} (h : lit a = lit b) : a = b := by
  unfold lit at h
  injection h with h
  obtain ⟨⟨x⟩⟩ := a
  obtain ⟨⟨y⟩⟩ := b
  simp at h
  rw [h]
theorem lit_key (s : ByteArray) : WideAt.IsKeyLit (lit s) := by
  unfold lit
  simp [WideAt.IsKeyLit]

/-- The set of the distinct texts, as a datum. -/
def Sd (l : List ByteArray) : DataW Unit := setOf (.agg []) ((ded l).map lit)

theorem same_lit (a b : ByteArray) : (lit a).sameKey (lit b) = decide (a = b) := by
  by_cases h : a = b
  · subst h
    have := has_put_same (H := Unit) (D := .map []) isMap_empty (lit_key a) (.agg [])
    simp
    unfold lit
    simp [Lit.sameKey]
  · rw [sameKey_ne fun e => h (lit_inj e)]
    simp [h]

theorem has_Sd (l : List ByteArray) (x : ByteArray) : Maps.has (Sd l) (lit x) = inB (ded l) x := by
  unfold Sd
  rw [has_setOf _ _ _ (fun y hy => by
    obtain ⟨s, _, rfl⟩ := List.mem_map.1 hy
    exact lit_key s)]
  rw [List.any_map]
  simp only [Function.comp_def, same_lit]
  rfl

theorem Sd_nil : Sd [] = .map [] := rfl
theorem Sd_new {l : List ByteArray} {x : ByteArray} (h : inB (ded l) x = false) : Sd (l ++ [x]) = (Sd l).put (lit x) (.agg []) := by
  unfold Sd
  rw [ded_new h, List.map_append]
  exact setOf_snoc _ _ _
theorem Sd_old {l : List ByteArray} {x : ByteArray} (h : inB (ded l) x = true) : Sd (l ++ [x]) = Sd l := by
  unfold Sd
  rw [ded_old h]
end Go.Proofs.YtiplakadjkimmabGreatFmt
