/-
  strings.EqualFold as a function of its two texts: plain law.
-/
import Derived.Test.YtnoghiefpdbpbaaGreatFmtV
import Derived.Test.YtnoghiefpdbpbaaGreatFmtE
import Derived.Laws.RangeAny
import Derived.PlainAid
namespace Go.Proofs.YtnoghiefpdbpbaaGreatFmt
open Go.Lib Go.PlainAid

theorem nthF_fold (v : Int) (k : Nat) : nthF (foldI v) k = nthF v (k + 1) := by
  induction k with
  | zero => rfl
  | succ k ih =>
    show foldI (nthF (foldI v) k) = foldI (nthF v (k + 1))
    rw [ih]

/-- The search through the runes that are alike. -/
def foldLoop : Nat → Int → Int → Int → Bool
  | 0, _, tr, r => r == tr
  | n + 1, sr, tr, r => if r ≠ sr ∧ r < tr then foldLoop n sr tr (foldI r) else r == tr
/-- How many steps back to sr. -/
def distTo (sr v : Int) : Nat := if v = sr then 0 else if nthF v 1 = sr then 1 else if nthF v 2 = sr then 2 else 3
theorem dist_less {sr v : Int} {k : Nat} (hk : k ≤ 3) (h : nthF v k = sr) (hv : v ≠ sr) : distTo sr (foldI v) < distTo sr v := by
  unfold distTo
  rw [if_neg hv, nthF_fold, nthF_fold]
  have e1 : nthF v 1 = foldI v := rfl
  by_cases h1 : nthF v 1 = sr
  · rw [if_pos h1, if_pos (by rw [← e1]; exact h1)]
    omega
  · rw [if_neg h1, if_neg (by rw [← e1]; exact h1)]
    by_cases h2 : nthF v 2 = sr
    · rw [if_pos h2, if_pos h2]
      omega
    · rw [if_neg h2, if_neg h2]
      match k, hk, h with
      | 0, _, h => exact absurd h hv
      | 1, _, h => exact absurd h h1
      | 2, _, h => exact absurd h h2
      | 3, _, h =>
        rw [if_pos h]
        omega

/-- The loop's state: it will come back. -/
def Back (sr tr v : Int) (b : Bool) : Prop := ∃ k m, k ≤ m ∧ m ≤ 3 ∧ nthF v k = sr ∧ foldLoop m sr tr v = b
theorem Back.start (sr tr : Int) : Back sr tr (foldI sr) (foldLoop 3 sr tr (foldI sr)) := by
  obtain ⟨k, hk, h⟩ := fold_back sr
  exact ⟨k, 3, by omega, Nat.le_refl _, by rw [nthF_fold, Nat.add_comm]; exact h, rfl⟩
theorem Back.on {sr tr v : Int} {b : Bool} (h : Back sr tr v b) (h1 : v ≠ sr) (h2 : v < tr) : Back sr tr (foldI v) b ∧ distTo sr (foldI v) < distTo sr v := by
  obtain ⟨k, m, h3, h4, h5, h6⟩ := h
  refine ⟨?_, dist_less (by omega) h5 h1⟩
  cases k with
  | zero => exact absurd h5 h1
  | succ k =>
    cases m with
    | zero => omega
    | succ m =>
      unfold foldLoop at h6
      rw [if_pos ⟨h1, h2⟩] at h6
      exact ⟨k, m, by omega, by omega, by rw [nthF_fold]; exact h5, h6⟩
theorem Back.off {sr tr v : Int} {b : Bool} (h : Back sr tr v b) (h1 : ¬ (v ≠ sr ∧ v < tr)) : b = (v == tr) := by
  obtain ⟨k, m, h3, h4, h5, h6⟩ := h
  cases m with
  | zero => exact h6.symm
  | succ m =>
    unfold foldLoop at h6
    rw [if_neg h1] at h6
    exact h6.symm

/-- ASCII letters that differ in case alone, the lesser one first. -/
def caseOf (x y : Int) : Bool := decide (65 ≤ x) && (decide (x ≤ 90) && (y == x + 32))
/-- Two different runes, the lesser one first. -/
def lessEq (x y : Int) : Bool := if y < 128 then caseOf x y else foldLoop 3 x y (foldI x)
def runeEq (a b : Int) : Bool := if b = a then true else if b < a then lessEq b a else lessEq a b

theorem decode_wide (s : ByteArray) (p : Nat) : 1 ≤ (Utf8.decode s p).2 := by
  simp only [Utf8.decode]
  repeat' split
  all_goals simp_all

def eqU (s : ByteArray) (p : Nat) (t : ByteArray) : Bool :=
  if p < s.size then
    if t.size = 0 then false
    else if runeEq (Utf8.decode s p).1 (Utf8.decode t 0).1 then eqU s (p + (Utf8.decode s p).2) (t.extract (Utf8.decode t 0).2 t.size) else false
  else t.size == 0
termination_by s.size - p
decreasing_by
  have := decode_wide s p
  omega

def byteEq (x y : Int) : Bool := if y = x then true else if y < x then caseOf y x else caseOf x y
def eqA (s t : ByteArray) (k : Nat) : Bool :=
  if k < s.size ∧ k < t.size then
    if 128 ≤ bt s k ∨ 128 ≤ bt t k then eqU (s.extract k s.size) 0 (t.extract k t.size)
    else if byteEq (bt s k) (bt t k) then eqA s t (k + 1) else false
  else s.size == t.size
termination_by s.size - k
decreasing_by omega

/-- strings.EqualFold. -/
def eqF (s t : ByteArray) : Bool := eqA s t 0
end Go.Proofs.YtnoghiefpdbpbaaGreatFmt
