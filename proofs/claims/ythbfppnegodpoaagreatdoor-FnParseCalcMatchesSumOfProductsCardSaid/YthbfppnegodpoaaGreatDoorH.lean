/-
  The walk of the law FnParsedNumberIsSimplifyFixedPoint.
-/
import Derived.Test.YthbfppnegodpoaaGreatDoorG
import Derived.LaidEqlPtr
namespace Go.Proofs.YthbfppnegodpoaaGreatDoor
open Go.RowKit Go.Deep Go.PlainAid

theorem info73 : (Tryz.prog.info? 73).map (fun _ => ()) = some () := by kernel_rfl

/-- A new numeric node, by its pointer. -/
def Numer (x : Nat) (w : World) (e : Ending) (w' : World) : Prop :=
  ∃ b, e = .returned (.tuple #[.pointer (some ⟨b, 0, none⟩), .bool true]) ∧ b < w'.heap.size ∧ w'.cell? ⟨b, 0, none⟩ = some (.string ⟨#[]⟩) ∧ w'.cell? ⟨b, 1, none⟩ = some (.float .f64 x) ∧ Below w.heap.size w w'

set_option maxRecDepth 100000 in
theorem numeric_any (x : Nat) (v : Value) (w : World) (h30 : Calls Tryz.prog 30 #[v] w (Numeric x w)) : Calls Tryz.prog 10 #[v] w (Numer x w) := by
  have ha := fun b => run_assert_same (P := Tryz.prog) (.pointer (some ⟨b, 0, none⟩)) 70 34 73 Tryz.underlying34
  have H := Lib.hid h30
  clear h30
  go_enter Tryz.func10, Tryz.ntmps10
  go_wp2_with fail
  refine H.out.mono ?_
  rintro e w' ⟨b, rfl, hb, h0, h1, hB⟩
  go_wp2_with fail
  go_ret2
  exact ⟨b, rfl, hb, h0, h1, hB⟩

set_option maxHeartbeats 4000000 in
set_option maxRecDepth 100000 in
theorem fnParsedNumberIsSimplifyFixedPoint_walk (x : Int) (b1 b2 : Bool) (W : World) (hx : (Lit.int .i32 x).wf = true) (hT : Tabs W) :
    Calls Tryz.prog 3 #[.int .i32 x, .bool b1, .bool b2] W fun e w' => e = .returned (.bool true) ∧ Below W.heap.size W w' := by
  have hx' : -2147483648 ≤ x ∧ x ≤ 2147483647 := by simpa [Lit.wf, IntKind.min, IntKind.max, IntKind.signed, IntKind.bits] using hx
  have HT := Lib.hid hT
  have hi := itoa_any x
  have hw := ws_any b1 b2
  have hq : (FloatKind.f64.format.order (floatOfInt .f64 x) (floatOfInt .f64 x) == some Ordering.eq) = true := flo_self x
  have hn : (FloatKind.f64.format.order (floatOfInt .f64 x) (floatOfInt .f64 x) != some Ordering.eq) = false := by rw [bne, hq]; rfl
  obtain ⟨i73, e73, _⟩ := Option.map_eq_some_iff.1 info73
  have he := fun w a => run_eql_ptr_same (P := Tryz.prog) w a Tryz.underlying34 e73
  clear hT
  go_enter Tryz.func3, Tryz.ntmps3
  go_wp2_with fail
  refine (hi _ hx'.1 hx'.2).mono ?_
  rintro e w1 ⟨rfl, hb1⟩
  go_wp2_with fail
  refine (hw _).mono ?_
  rintro e w2 ⟨rfl, rfl⟩
  go_wp2_with fail
  have hle := hb1.size
  refine (numeric_any _ _ _ (calc_number (strOfNums (numZ x)) (wsN b1 b2) (floatOfInt .f64 x) w1.heap.size 1 _ (HT.out.below ((hb1.trans (Below.refl _ _)).alloc hle _)) (by simp [go_sem]) (by simp [go_sem]) (by simp [go_sem]) (by simp [go_sem]) (by simp [go_sem]) (by simp [go_sem]) (by simp [go_sem])
    fun W' hT' => parse_num x hx'.1 hx'.2 W' hT')).mono ?_
  rintro e w3 ⟨b, rfl, hb, h0, h1, hB⟩
  have hu := unit_any b _ w3 h0
  have hv := number_any b _ w3 h1
  have hs := simp_any b w3
  go_wp2_with fail
  refine hu.mono ?_
  rintro e w' ⟨rfl, rfl⟩
  go_wp2_with fail
  refine hv.mono ?_
  rintro e w' ⟨rfl, rfl⟩
  go_wp2_with fail
  refine hs.mono ?_
  rintro e w' ⟨rfl, rfl⟩
  go_wp2_with fail
  refine hu.mono ?_
  rintro e w' ⟨rfl, rfl⟩
  go_wp2_with fail
  refine hv.mono ?_
  rintro e w' ⟨rfl, rfl⟩
  go_wp2_with fail
  go_ret
  exact ⟨rfl, (hb1.alloc hle _).trans (hB.mono (by rw [World.size_alloc]; omega))⟩
end Go.Proofs.YthbfppnegodpoaaGreatDoor
