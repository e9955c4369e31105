/-
  ZZmangleFont; two rows that the law fills side by side.
-/
import Derived.Test.YtoeahdefgblmoaaGreatDoorJ
namespace Go.Proofs.YtoeahdefgblmoaaGreatDoor
open Go.RowKit Go.Deep Go.PlainAid Go.Maps Go.Sort

/-- What ZZmangleFont answers. -/
def ZPost (w0 : World) (out : List TK) (e : Ending) (w' : World) : Prop := ∃ T' c', e = .returned (.slice (some ⟨T', 0, none⟩) out.length c') ∧ w0.heap.size ≤ T' ∧ RowAt w' T' c' out ∧ Below w0.heap.size w0 w'

set_option maxHeartbeats 4000000 in
set_option maxRecDepth 100000 in
theorem zz_any (w0 : World) (v : Value) (mn : Bool) (out : List TK)
    (hcall : ∀ W p0, Below w0.heap.size w0 W → W.cell? ⟨p0, 50, none⟩ = some (.bool mn) → Calls Tryz.prog 17 #[.pointer (some ⟨p0, 0, none⟩), v] W (ZPost W out)) :
    Calls Tryz.prog 6 #[v, .bool mn] w0 (ZPost w0 out) := by
  have HC := Lib.hid hcall
  clear hcall
  go_enter Tryz.func6, Tryz.ntmps6
  go_wp2_with fail
  refine Calls.mono (HC.out _ _ ?hb ?hc) ?hp
  case hb => exact (Below.refl _ _).alloc (Nat.le_refl _) _
  case hc => simp [go_sem]
  rintro e w' ⟨T', c', rfl, h1, h2, h3⟩
  have h4 : w0.heap.size ≤ T' := by rw [World.size_alloc] at h1; omega
  have h5 : Below w0.heap.size w0 w' := ((Below.refl _ _).alloc (Nat.le_refl _) _).trans (h3.mono (by rw [World.size_alloc]; omega))
  clear h1 h3
  have HH := Lib.hid (And.intro h4 (And.intro h2 h5))
  clear h4 h2 h5
  go_wp2_with fail
  go_ret
  exact ⟨T', c', rfl, HH.out⟩
end Go.Proofs.YtoeahdefgblmoaaGreatDoor
