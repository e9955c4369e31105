/-
  What the law reads besides its arguments.
-/
import Derived.Test.YtoeahdefgblmoaaGreatDoorN
namespace Go.Proofs.YtoeahdefgblmoaaGreatDoor
open Go.RowKit Go.Deep Go.PlainAid Go.Maps Go.Sort

/-- The variables that the road reads. -/
structure Env0 (w : World) : Prop where
  kw : MapAt w 0 KW
  gf : MapAt w 1 GF
  tabs : Tabs w
theorem Env0.below {w w' : World} (h : Env0 w) (hb : Below w.heap.size w w') : Env0 w' := ⟨h.kw.below hb, h.gf.below hb, h.tabs.below hb⟩

/-- The words are the words. -/
theorem pre_num (zs ws : List Int) (k : Nat) : ∀ x ∈ preL zs ws k, x.1 < 15 := fun x hx => by
  unfold preL at hx
  obtain ⟨i, _, rfl⟩ := List.mem_map.1 hx
  exact Nat.mod_lt _ (by decide)
end Go.Proofs.YtoeahdefgblmoaaGreatDoor
