/-
  Slices of floats and of booleans among the arguments, opened.
-/
import Derived.Test.YtnoghiefpdbpbaaGreatFmtB
import Derived.Deep.Slices
import Derived.ChangeArms
namespace Go.Proofs.YtnoghiefpdbpbaaGreatFmt
open Go.RowKit Go.Deep Go.ChangeShapes Go.WideShapes

section
variable {H : Type} {enc : TypeId × Value → H} {P : Program} {w : World} {base : Nat} {held : Bool}

theorem trod_float1 {spare : Nat → Bool} {e : TypeId} {fuel : Nat} {v : Value} {x : DataW H × List MemPlace} (he : P.underlying e = some (.float .f64)) (h : DataW.trod enc P w base spare held fuel e [v] = some x) : ∃ b, v = .float .f64 b := by
  cases fuel with
  | zero => simp [DataW.trod] at h
  | succ n =>
    unfold DataW.trod at h
    rw [he] at h
    split at h <;> simp_all

theorem trod_bool1 {spare : Nat → Bool} {e : TypeId} {fuel : Nat} {v : Value} {x : DataW H × List MemPlace} (he : P.underlying e = some .bool) (h : DataW.trod enc P w base spare held fuel e [v] = some x) : ∃ b, v = .bool b := by
  obtain ⟨b, h1, _⟩ := DataW.trod_bool he h
  exact ⟨b, by simpa using h1⟩

theorem trod_string1 {spare : Nat → Bool} {e : TypeId} {fuel : Nat} {v : Value} {x : DataW H × List MemPlace} (he : P.underlying e = some .string) (h : DataW.trod enc P w base spare held fuel e [v] = some x) : ∃ b, v = .string b := by
  cases fuel with
  | zero => simp [DataW.trod] at h
  | succ n =>
    unfold DataW.trod at h
    rw [he] at h
    split at h <;> simp_all

theorem open_slc {α : Type} (f : α → Value) (d : α) {t e : TypeId} {fuel : Nat} {cs : List Value} {x : DataW H × List MemPlace} (ht : P.underlying t = some (.slice e)) (hc : P.cellsOf e = 1)
    (hone : ∀ n v y, DataW.trod enc P w base (fun _ => true) held n e [v] = some y → ∃ a, v = f a) (h : DataW.trod enc P w base (fun _ => true) held fuel t cs = some x) :
    ∃ (a : Option Addr) (len cap : Nat) (zs : List α), cs = [.slice a len cap] ∧ len = zs.length ∧ Slc f d w a zs ∧ zs.length ≤ 9223372036854775807 := by
  rcases open_slice1 ht hc h with ⟨rfl, _⟩ | ⟨a, len, cap, m, n, V, D, Pl, rfl, hb, hl, hm, hmm, rfl, hx⟩
  · exact ⟨none, 0, 0, [], rfl, rfl, fun i hi => absurd hi (Nat.not_lt_zero _), Nat.zero_le _⟩
  · simp only [if_true] at hmm
    subst hmm
    haveI : Inhabited α := ⟨d⟩
    obtain ⟨F, hF⟩ := choose_lt (α := α) (p := fun i b => V i = f b) (fun i hi => hone _ _ _ (hx i hi).2)
    refine ⟨some a, len, m, (List.range len).map F, rfl, by simp, fun i hi => ?_, ?_⟩
    rotate_left
    · have : maxLen ≤ 9223372036854775807 := by decide
      simp
      omega
    have hi' : i < len := by simpa using hi
    obtain ⟨b, off, spot⟩ := a
    have hspot : spot = none := by simpa [Addr.add] using World.cell?_spot (hx 0 (by omega)).1
    have h0' := (hx i (by omega)).1
    subst hspot
    refine ⟨b, off, rfl, ?_⟩
    rw [show (⟨b, off + i, none⟩ : Addr) = (⟨b, off, none⟩ : Addr).add i by unfold Addr.add; split <;> simp_all, h0', hF i (by omega)]
    simp [List.getD_eq_getElem?_getD, hi']
end
end Go.Proofs.YtnoghiefpdbpbaaGreatFmt
