/-
  special: whatever the text; the float of given bits.
-/
import Derived.Test.YtoeahdefgblmoaaGreatDoorRI
import Derived.Test.YtoeahdefgblmoaaGreatDoorRK
namespace Go.Proofs.YtoeahdefgblmoaaGreatDoor
open Go.RowKit Go.Deep Go.PlainAid Go.Maps Go.Sort

set_option maxRecDepth 100000 in
theorem inf_any (x : Int) (w : World) : Calls Tryz.prog 80 #[.int .i64 x] w (Gives isF w) := by
  have hb := run_bits
  go_enter Tryz.func80, Tryz.ntmps80
  go_wp2_with fail
  all_goals
    go_ret
    exact ⟨_, rfl, ⟨_, rfl⟩, rfl⟩
set_option maxRecDepth 100000 in
theorem nan_any (w : World) : Calls Tryz.prog 81 #[] w (Gives isF w) := by
  have hb := run_bits
  go_enter Tryz.func81, Tryz.ntmps81
  go_wp2_with fail
  go_ret
  exact ⟨_, rfl, ⟨_, rfl⟩, rfl⟩

def isSp (v : Value) : Prop := ∃ x n b, v = .tuple #[.float .f64 x, .int .i64 n, .bool b]

set_option maxHeartbeats 1000000 in
set_option maxRecDepth 100000 in
theorem special_any (s : ByteArray) (w : World) (hs : s.size ≤ 1048576) : Calls Tryz.prog 64 #[.string s] w (Gives isSp w) := by
  have hb := get_bt s
  by_cases h0 : s.size = 0
  · have he : s = ByteArray.empty := by
      apply ByteArray.ext
      apply Array.eq_empty_of_size_eq_zero
      exact h0
    subst he
    go_enter Tryz.func64, Tryz.ntmps64
    go_wp2_with fail
    go_ret3
    exact ⟨_, rfl, ⟨_, _, _, rfl⟩, rfl⟩
  · have hp : 0 < s.size := by omega
    have hne := ne_empty hp
    have HP : ∀ (t : ByteArray) (p : ByteArray) W, t.size ≤ 1048576 → p.size ≤ 1048576 → Calls Tryz.prog 79 #[.string t, .string p] W (Gives isI W) := fun t p W a b => prefix_any t p W a b
    have HH := Lib.hid HP
    clear HP
    go_enter Tryz.func64, Tryz.ntmps64
    go_wp2_with (first
      | (go_at_call 79; refine (HH.out _ _ _ (by first | exact hs | (rw [ByteArray.size_extract]; omega)) (by decide)).mono ?_; rintro e w' ⟨v, rfl, ⟨x, rfl⟩, rfl⟩)
      | (go_at_call 80; refine (inf_any _ _).mono ?_; rintro e w' ⟨v, rfl, ⟨x, rfl⟩, rfl⟩)
      | (go_at_call 81; refine (nan_any _).mono ?_; rintro e w' ⟨v, rfl, ⟨x, rfl⟩, rfl⟩)
      | fail)
    all_goals
      go_ret3
      exact ⟨_, rfl, ⟨_, _, _, rfl⟩, rfl⟩
end Go.Proofs.YtoeahdefgblmoaaGreatDoor
