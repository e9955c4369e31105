/-
  The law's early ends: too long, or no family.
-/
import Derived.Test.YtoeahdefgblmoaaGreatDoorN2
namespace Go.Proofs.YtoeahdefgblmoaaGreatDoor
open Go.RowKit Go.Deep Go.PlainAid Go.Maps Go.Sort

set_option maxHeartbeats 4000000 in
set_option maxRecDepth 100000 in
theorem law_short (a0 a4 a5 : Option Addr) (cap0 cap4 cap5 n0 n4 n5 m1 m3 : Nat) (b2 b6 : Bool) (W : World)
    (l0 : n0 ≤ 9223372036854775807) (l4 : n4 ≤ 9223372036854775807) (l5 : n5 ≤ 9223372036854775807) (h : ¬ (n0 ≤ 4096 ∧ n4 ≤ 4096 ∧ n5 ≤ 65536 ∧ 1 ≤ n4)) :
    Calls Tryz.prog 4 #[.slice a0 n0 cap0, .int .u8 (m1 : Int), .bool b2, .int .u8 (m3 : Int), .slice a4 n4 cap4, .slice a5 n5 cap5, .bool b6] W fun e w' => e = .returned (.bool true) ∧ Below W.heap.size W w' := by
  go_enter Tryz.func4, Tryz.ntmps4
  go_wp2_with fail
  refine (bytes_any a0 a4 a5 cap0 cap4 cap5 n0 n4 n5 m1 m3 b2 b6 W l0 l4 l5).mono ?_
  rintro e w' ⟨⟨b, rfl, hb⟩, rfl⟩
  cases b with
  | false =>
    clear hb
    go_wp2_with fail
    go_ret
    exact ⟨rfl, Below.refl _ _⟩
  | true =>
    obtain ⟨k0, k4, k5⟩ := hb rfl
    clear hb
    by_cases c0 : n0 ≤ 4096
    · have i0 : (n0 : Int) ≤ 4096 := by omega
      by_cases c4 : n4 ≤ 4096
      · have i4 : (n4 : Int) ≤ 4096 := by omega
        by_cases c5 : n5 ≤ 65536
        · have i5 : (n5 : Int) ≤ 65536 := by omega
          obtain rfl : n4 = 0 := by omega
          have i1 : ((0 : Nat) : Int) = 0 := rfl
          go_wp2_with fail
          go_ret
          exact ⟨rfl, Below.refl _ _⟩
        · have i5 : (65536 : Int) < (n5 : Int) := by omega
          go_wp2_with fail
          go_ret
          exact ⟨rfl, Below.refl _ _⟩
      · have i4 : (4096 : Int) < (n4 : Int) := by omega
        go_wp2_with fail
        go_ret
        exact ⟨rfl, Below.refl _ _⟩
    · have i0 : (4096 : Int) < (n0 : Int) := by omega
      go_wp2_with fail
      go_ret
      exact ⟨rfl, Below.refl _ _⟩
end Go.Proofs.YtoeahdefgblmoaaGreatDoor
