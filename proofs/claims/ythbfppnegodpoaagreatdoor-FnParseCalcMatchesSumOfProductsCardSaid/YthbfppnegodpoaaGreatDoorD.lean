/-
  strconv.ParseFloat on the decimal text of a whole number: what it answers.
-/
import Derived.Test.YthbfppnegodpoaaGreatDoorC
namespace Go.Proofs.YthbfppnegodpoaaGreatDoor
open Go.RowKit Go.Deep Go.PlainAid

set_option maxRecDepth 100000 in
theorem pf56 (s : ByteArray) (x : Nat) (n : Int) (w : World) (h : Calls Tryz.prog 62 #[.string s] w fun e w' => e = .returned (.tuple #[.float .f64 x, .int .i64 n, .nilIface]) ∧ w = w') :
    Calls Tryz.prog 56 #[.string s, .int .i64 64] w fun e w' => e = .returned (.tuple #[.float .f64 x, .int .i64 n, .nilIface]) ∧ w = w' := by
  have H := Lib.hid h
  clear h
  go_enter Tryz.func56, Tryz.ntmps56
  go_wp2_with fail
  refine H.out.mono ?_
  rintro e w' ⟨rfl, rfl⟩
  go_wp2_with fail
  go_ret3
  exact ⟨rfl, rfl⟩

set_option maxRecDepth 100000 in
theorem pf50 (s : ByteArray) (x : Nat) (w : World) (h : Calls Tryz.prog 62 #[.string s] w fun e w' => e = .returned (.tuple #[.float .f64 x, .int .i64 s.size, .nilIface]) ∧ w = w') :
    Calls Tryz.prog 50 #[.string s, .int .i64 64] w fun e w' => e = .returned (.tuple #[.float .f64 x, .nilIface]) ∧ w = w' := by
  have H := Lib.hid (pf56 s x _ w h)
  have hz : ((s.size : Int) != s.size) = false := by simp
  clear h
  go_enter Tryz.func50, Tryz.ntmps50
  go_wp2_with fail
  refine H.out.mono ?_
  rintro e w' ⟨rfl, rfl⟩
  go_wp2_with fail
  go_ret2
  exact ⟨rfl, rfl⟩

set_option maxRecDepth 100000 in
theorem pf41 (s : ByteArray) (x : Nat) (w : World) (h : Calls Tryz.prog 62 #[.string s] w fun e w' => e = .returned (.tuple #[.float .f64 x, .int .i64 s.size, .nilIface]) ∧ w = w') :
    Calls Tryz.prog 41 #[.string s, .int .i64 64] w fun e w' => e = .returned (.tuple #[.float .f64 x, .nilIface]) ∧ w = w' := by
  have H := Lib.hid (pf50 s x w h)
  clear h
  go_enter Tryz.func41, Tryz.ntmps41
  go_wp2_with fail
  refine H.out.mono ?_
  rintro e w' ⟨rfl, rfl⟩
  go_wp2_with fail
  go_outline
  go_ret2
  exact ⟨rfl, rfl⟩

end Go.Proofs.YthbfppnegodpoaaGreatDoor
