/-
  The law FnMangleFontAcceptsWellFormedShorthand, walked whole.
-/
import Derived.Test.YtoeahdefgblmoaaGreatDoorP0
import Derived.Test.YtoeahdefgblmoaaGreatDoorP1
import Derived.Test.YtoeahdefgblmoaaGreatDoorP2
import Derived.Test.YtoeahdefgblmoaaGreatDoorPS
import Derived.Test.YtoeahdefgblmoaaGreatDoorQ
import Derived.OpenShut
namespace Go.Proofs.YtoeahdefgblmoaaGreatDoor
open Go.ChangeShapes Go.WideShapes Go.ChangeAt Go.RowKit

theorem fnMangleFontAcceptsWellFormedShorthand_walk (a0 : Option Addr) (cap0 : Nat) (zs0 : List Int) (x1 : Int) (b2 : Bool) (x3 : Int) (a4 : Option Addr) (cap4 : Nat) (zs4 : List Int) (a5 : Option Addr) (cap5 : Nat) (zs5 : List Int) (b6 : Bool) (W : World)
    (h0 : U8s W a0 zs0) (l0 : zs0.length ≤ 9223372036854775807) (w1 : (Lit.int .u8 x1).wf = true) (w3 : (Lit.int .u8 x3).wf = true) (h4 : U8s W a4 zs4) (l4 : zs4.length ≤ 9223372036854775807) (h5 : U8s W a5 zs5) (l5 : zs5.length ≤ 9223372036854775807)
    (hL : laidMet Tryz.prog Rows.fnMangleFontAcceptsWellFormedShorthandRow.laid W) :
    Calls Tryz.prog 4 #[.slice a0 zs0.length cap0, .int .u8 x1, .bool b2, .int .u8 x3, .slice a4 zs4.length cap4, .slice a5 zs5.length cap5, .bool b6] W fun e w' => e = .returned (.bool true) ∧ Below W.heap.size W w' := by
  obtain ⟨m1, rfl⟩ : ∃ m : Nat, x1 = (m : Int) := ⟨x1.toNat, by have := (bounds_u8 w1).1; omega⟩
  obtain ⟨m3, rfl⟩ : ∃ m : Nat, x3 = (m : Int) := ⟨x3.toNat, by have := (bounds_u8 w3).1; omega⟩
  by_cases h : zs0.length ≤ 4096 ∧ zs4.length ≤ 4096 ∧ zs5.length ≤ 65536 ∧ 1 ≤ zs4.length
  · obtain ⟨c0, c4, c5, p4⟩ := h
    have hE := env_of hL
    cases b2 with
    | false => exact law_main0 a0 a4 a5 cap0 cap4 cap5 _ _ _ m1 m3 zs0 zs4 zs5 b6 W hE h0 h4 h5 rfl rfl rfl c0 c4 c5 p4
    | true =>
      cases b6 with
      | false => exact law_main1 a0 a4 a5 cap0 cap4 cap5 _ _ _ m1 m3 zs0 zs4 zs5 W hE h0 h4 h5 rfl rfl rfl c0 c4 c5 p4
      | true => exact law_main2 a0 a4 a5 cap0 cap4 cap5 _ _ _ m1 m3 zs0 zs4 zs5 W hE h0 h4 h5 rfl rfl rfl c0 c4 c5 p4
  · exact law_short a0 a4 a5 cap0 cap4 cap5 _ _ _ m1 m3 b2 b6 W l0 l4 l5 h
end Go.Proofs.YtoeahdefgblmoaaGreatDoor
