/-
  Shift.
-/
import Derived.Test.YtoeahdefgblmoaaGreatDoorRD
namespace Go.Proofs.YtoeahdefgblmoaaGreatDoor
open Go.RowKit Go.Deep Go.PlainAid Go.Maps Go.Sort

set_option maxHeartbeats 1000000 in
set_option maxRecDepth 100000 in
theorem shift_right (b : Nat) (G : Nat → Int) (nd : Nat) (dp : Int) (ng tr : Bool) (k : Nat) (w : World) (hk1 : 1 ≤ k) (hk : k ≤ 60) (hn : 1 ≤ nd) (hg : Good G nd) (h1 : -1000000000 ≤ dp) (h2 : dp ≤ 1000000000) (hd : DecAt w b G nd dp ng tr) :
    Calls Tryz.prog 92 #[.pointer (some ⟨b, 0, none⟩), .int .i64 (-(k : Int))] w (RightPost b G dp ng w) := by
  have HR := Lib.hid (right_any b G nd dp ng tr k w hk1 hk hn hg h1 h2 hd)
  have c0 := hd.cnd
  have hn0 : ((nd : Int) == 0) = false := by rw [beq_eq_false_iff_ne]; omega
  clear hd hg
  have h60 : -60 ≤ -(k : Int) := by omega
  go_enter Tryz.func92, Tryz.ntmps92
  go_wp2_with fail
  refine wp_loop_rounds 1 ?_
  rw [rounds_succ]
  go_wp2_with fail
  refine HR.out.mono ?_
  intro e w' h
  have HH := Lib.hid h
  obtain ⟨rfl, _⟩ := h
  go_wp2_with fail
  refine bodyPost_end (v := .tuple #[]) (by simp [results, Tryz.results92, go_sem]) rfl ?_
  exact HH.out

set_option maxHeartbeats 1000000 in
set_option maxRecDepth 100000 in
theorem shift_left (b : Nat) (G : Nat → Int) (nd : Nat) (dp : Int) (ng tr : Bool) (k : Nat) (w : World) (hk1 : 1 ≤ k) (hk : k ≤ 60) (hn : 1 ≤ nd) (hg : Good G nd) (h1 : -1000000000 ≤ dp) (h2 : dp ≤ 1000000000) (hd : DecAt w b G nd dp ng tr) (hC : Cheats w) :
    Calls Tryz.prog 92 #[.pointer (some ⟨b, 0, none⟩), .int .i64 (k : Int)] w (LeftPost b G dp ng w) := by
  have HR := Lib.hid (left_any b G nd dp ng tr k w hk1 hk hn hg h1 h2 hd hC)
  have c0 := hd.cnd
  have hn0 : ((nd : Int) == 0) = false := by rw [beq_eq_false_iff_ne]; omega
  clear hd hg hC
  have h60 : (k : Int) ≤ 60 := by omega
  go_enter Tryz.func92, Tryz.ntmps92
  go_wp2_with fail
  refine wp_loop_rounds 1 ?_
  rw [rounds_succ]
  go_wp2_with fail
  refine HR.out.mono ?_
  intro e w' h
  have HH := Lib.hid h
  obtain ⟨rfl, _⟩ := h
  go_wp2_with fail
  refine bodyPost_end (v := .tuple #[]) (by simp [results, Tryz.results92, go_sem]) rfl ?_
  exact HH.out

/-- Some decimal, not nought. -/
def Some1 (b : Nat) (lo hi : Int) (ng : Bool) (w w' : World) : Prop := ∃ (G : Nat → Int) (nd : Nat) (dp : Int) (tr : Bool), 1 ≤ nd ∧ Good G nd ∧ DecAt w' b G nd dp ng tr ∧ lo ≤ dp ∧ dp ≤ hi ∧ Below b w w'
def DownPost (b : Nat) (lo hi : Int) (ng : Bool) (w : World) (e : Ending) (w' : World) : Prop := e = .returned (.tuple #[]) ∧ Some1 b lo hi ng w w'

set_option maxHeartbeats 1000000 in
set_option maxRecDepth 100000 in
theorem shift_down (b : Nat) (G : Nat → Int) (nd : Nat) (dp : Int) (ng tr : Bool) (k : Nat) (w : World) (hk1 : 1 ≤ k) (hk : k ≤ 1000000) (hn : 1 ≤ nd) (hg : Good G nd) (h1 : -1000000 ≤ dp) (h2 : dp ≤ 1000000) (hd : DecAt w b G nd dp ng tr) :
    Calls Tryz.prog 92 #[.pointer (some ⟨b, 0, none⟩), .int .i64 (-(k : Int))] w (DownPost b (dp - 20 * (k : Int)) dp ng w) := by
  have c0 := hd.cnd
  have hn0 : ((nd : Int) == 0) = false := by rw [beq_eq_false_iff_ne]; omega
  have H0 : Hid (Some1 b (dp - 20 * (((k : Int)) - k)) dp ng w w) := Lib.hid ⟨G, nd, dp, tr, hn, hg, hd, by omega, Int.le_refl _, Below.refl _ _⟩
  have hk0 : 0 < k := hk1
  clear hd hg
  go_enter Tryz.func92, Tryz.ntmps92
  go_wp2_with fail
  go_loopw [1] (fun s wr => ∃ m : Nat, s = .int .i64 (-(m : Int)) ∧ 1 ≤ m ∧ m ≤ k ∧ Hid (Some1 b (dp - 20 * ((k : Int) - m)) dp ng w wr)) (fun s _ => (-(intOf s)).toNat)
  case atStart => exact ⟨k, rfl, hk1, Nat.le_refl _, H0⟩
  case round =>
    obtain ⟨m, rfl, hm1, hm, hS⟩ := hrel
    obtain ⟨G1, nd1, dp1, tr1, g1, g2, g3, g4, g5, g6⟩ := hS.out
    have H1 := Lib.hid (And.intro g4 (And.intro g5 g6))
    by_cases h60 : 60 < m
    · have h60' : -(m : Int) < -60 := by omega
      have hr := right_any b G1 nd1 dp1 ng tr1 60 wr (by omega) (by omega) g1 g2 (by omega) (by omega) g3
      have HR := Lib.hid hr
      clear hr g1 g2 g3 g4 g5 g6
      go_wp2_with fail
      refine Calls.mono (show Calls Tryz.prog 98 #[.pointer (some ⟨b, 0, none⟩), .int .u64 60] wr _ from HR.out) ?_
      rintro e w' ⟨rfl, G', nd', dp', tr', k1, k2, k3, k4, k5, k6, _⟩
      obtain ⟨g4, g5, g6⟩ := H1.out
      have H2 : Hid (Some1 b (dp - 20 * ((k : Int) - ((m - 60 : Nat) : Int))) dp ng w w') := Lib.hid ⟨G', nd', dp', tr', k1, k2, k3, by omega, by omega, g6.trans k4⟩
      clear g4 g5 g6 k1 k2 k3 k4 k5 k6
      go_wp2_with fail
      refine ⟨⟨m - 60, by congr 1; omega, by omega, by omega, H2⟩, ?_⟩
      show (-(-(m : Int) + 60)).toNat < (-(-(m : Int))).toNat
      omega
    · have h60' : -60 ≤ -(m : Int) := by omega
      have hr := right_any b G1 nd1 dp1 ng tr1 m wr (by omega) (by omega) g1 g2 (by omega) (by omega) g3
      have HR := Lib.hid hr
      clear hr g1 g2 g3 g4 g5 g6
      go_wp2_with fail
      refine HR.out.mono ?_
      rintro e w' ⟨rfl, G', nd', dp', tr', k1, k2, k3, k4, k5, k6, _⟩
      obtain ⟨g4, g5, g6⟩ := H1.out
      have H2 : Hid (Some1 b (dp - 20 * (k : Int)) dp ng w w') := Lib.hid ⟨G', nd', dp', tr', k1, k2, k3, by omega, by omega, g6.trans k4⟩
      clear g4 g5 g6 k1 k2 k3 k4 k5 k6
      go_wp2_with fail
      refine bodyPost_end (v := .tuple #[]) (by simp [results, Tryz.results92, go_sem]) rfl ?_
      exact ⟨rfl, H2.out⟩
end Go.Proofs.YtoeahdefgblmoaaGreatDoor
