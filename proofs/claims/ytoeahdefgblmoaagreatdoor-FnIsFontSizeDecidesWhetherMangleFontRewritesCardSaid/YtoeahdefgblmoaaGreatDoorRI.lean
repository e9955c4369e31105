/-
  The small functions on a text: lower, underscoreOK, the common prefix, special.
  Then: underscoreOK: whatever the text.
-/
import Derived.Test.YtoeahdefgblmoaaGreatDoorRE
import Derived.Deep.DeepCutAuto
namespace Go.Proofs.YtoeahdefgblmoaaGreatDoor
open Go.RowKit Go.Deep Go.PlainAid Go.Maps Go.Sort

def isI (v : Value) : Prop := ∃ x, v = .int .i64 x
def isU8 (v : Value) : Prop := ∃ x, v = .int .u8 x
def isR (v : Value) : Prop := ∃ x, v = .int .i32 x
def isF (v : Value) : Prop := ∃ x, v = .float .f64 x
/-- A text no longer than n. -/
def isS (n : Nat) (v : Value) : Prop := ∃ t : ByteArray, t.size ≤ n ∧ v = .string t
/-- A place in a text of length n. -/
def isK (n : Nat) (v : Value) : Prop := ∃ k : Nat, k ≤ n ∧ v = .int .i64 k

theorem lower_any (c : Int) (w : World) : Calls Tryz.prog 82 #[.int .u8 c] w (Gives isU8 w) := by
  go_enter Tryz.func82, Tryz.ntmps82
  go_wp2
  go_ret
  exact ⟨_, rfl, ⟨_, rfl⟩, rfl⟩

theorem ne_empty {s : ByteArray} (h : 0 < s.size) : ¬ s = ByteArray.empty := fun e => by rw [e] at h; exact absurd h (by decide)

set_option maxHeartbeats 1000000 in
set_option maxRecDepth 100000 in
theorem prefix_any (s p : ByteArray) (w : World) (hs : s.size ≤ 1048576) (hp : p.size ≤ 1048576) : Calls Tryz.prog 79 #[.string s, .string p] w (Gives isI w) := by
  have hb := get_bt s
  have hc := get_bt p
  by_cases hle : p.size ≤ s.size
  · have hle' : (p.size : Int) ≤ (s.size : Int) := by omega
    go_enter Tryz.func79, Tryz.ntmps79
    go_wp2_with fail
    go_loop [6] (fun i => ∃ k : Nat, k ≤ p.size ∧ i = .int .i64 k) (fun i => p.size - (intOf i).toNat)
    case atStart => exact ⟨0, by omega, rfl⟩
    case round =>
      obtain ⟨k, hk, rfl⟩ := hrel
      by_cases h1 : k < p.size
      · have h1' : (k : Int) < (p.size : Int) := by omega
        have h2 : k < s.size := by omega
        go_wp2_with fail
        all_goals first
          | (go_ret; exact ⟨_, rfl, ⟨_, rfl⟩, rfl⟩)
          | exact ⟨⟨k + 1, by omega, by go_num⟩, by simp [intOf]; omega⟩
      · have h1' : (p.size : Int) ≤ (k : Int) := by omega
        go_wp2_with fail
        go_ret
        exact ⟨_, rfl, ⟨_, rfl⟩, rfl⟩
  · have hle' : (s.size : Int) < (p.size : Int) := by omega
    go_enter Tryz.func79, Tryz.ntmps79
    go_wp2_with fail
    go_loop [6] (fun i => ∃ k : Nat, k ≤ s.size ∧ i = .int .i64 k) (fun i => s.size - (intOf i).toNat)
    case atStart => exact ⟨0, by omega, rfl⟩
    case round =>
      obtain ⟨k, hk, rfl⟩ := hrel
      by_cases h1 : k < s.size
      · have h1' : (k : Int) < (s.size : Int) := by omega
        have h2 : k < p.size := by omega
        go_wp2_with fail
        all_goals first
          | (go_ret; exact ⟨_, rfl, ⟨_, rfl⟩, rfl⟩)
          | exact ⟨⟨k + 1, by omega, by go_num⟩, by simp [intOf]; omega⟩
      · have h1' : (s.size : Int) ≤ (k : Int) := by omega
        go_wp2_with fail
        go_ret
        exact ⟨_, rfl, ⟨_, rfl⟩, rfl⟩

end Go.Proofs.YtoeahdefgblmoaaGreatDoor

namespace Go.Proofs.YtoeahdefgblmoaaGreatDoor
open Go.RowKit Go.Deep Go.PlainAid Go.Maps Go.Sort

set_option maxHeartbeats 1000000 in
set_option maxRecDepth 100000 in
theorem under_any (s : ByteArray) (w : World) (hs : s.size ≤ 1048576) : Calls Tryz.prog 83 #[.string s] w (Gives isB w) := by
  have hb := get_bt s
  go_enter Tryz.func83, Tryz.ntmps83
  go_upto_region 3 with fail
  go_cut [18] (fun s18 wx => (∃ c, s18 = .bool c ∧ Hid (c = true → 1 ≤ s.size)) ∧ wx = w)
  case first =>
    go_wp2_with fail
    all_goals
      go_meet
      exact ⟨⟨_, rfl, Lib.hid (by first | (intro _; omega) | (intro h; cases h))⟩, rfl⟩
  case rest =>
  obtain ⟨⟨c, rfl, hc⟩, rfl⟩ := hcut
  go_upto_if 18 with fail
  go_cut [0] (fun s0 wx => (∃ t : ByteArray, t.size ≤ 1048576 ∧ s0 = .string t) ∧ wx = wc)
  case first =>
    cases c
    · go_wp2_with fail
      go_meet
      exact ⟨⟨s, hs, rfl⟩, rfl⟩
    · have h1 := hc.out rfl
      go_wp2_with fail
      go_meet
      refine ⟨⟨_, ?_, rfl⟩, rfl⟩
      rw [ByteArray.size_extract]
      omega
  case rest =>
  clear hc hb hs
  obtain ⟨⟨t, ht, rfl⟩, rfl⟩ := hcut
  have hb := get_bt t
  go_upto_region 6 with fail
  go_cut [46] (fun s46 wx => (∃ c, s46 = .bool c ∧ Hid (c = true → 2 ≤ t.size)) ∧ wx = wc)
  case first =>
    go_wp2_with (first | (go_at_call 82; refine (lower_any _ _).mono ?_; rintro e w' ⟨v, rfl, ⟨x, rfl⟩, rfl⟩) | fail)
    all_goals
      go_meet
      exact ⟨⟨_, rfl, Lib.hid (by first | (intro _; omega) | (intro h; cases h))⟩, rfl⟩
  case rest =>
  obtain ⟨⟨c2, rfl, hc2⟩, rfl⟩ := hcut
  go_upto_if 46 with fail
  go_cut [3, 4, 5] (fun s3 s4 s5 wx => isR s3 ∧ isK t.size s4 ∧ isB s5 ∧ wx = wc)
  case first =>
    cases c2
    · go_wp2_with fail
      go_meet
      exact ⟨⟨_, rfl⟩, ⟨0, by omega, rfl⟩, ⟨_, rfl⟩, rfl⟩
    · have h1 := hc2.out rfl
      go_wp2_with (first | (go_at_call 82; refine (lower_any _ _).mono ?_; rintro e w' ⟨v, rfl, ⟨x, rfl⟩, rfl⟩) | fail)
      all_goals
        go_meet
        exact ⟨⟨_, rfl⟩, ⟨2, by omega, rfl⟩, ⟨_, rfl⟩, rfl⟩
  case rest =>
  clear hc2
  obtain ⟨⟨r, rfl⟩, ⟨k0, hk0, rfl⟩, ⟨hx, rfl⟩, rfl⟩ := hcut
  cases hx
  all_goals
    go_wp2_with fail
    go_loop [3, 4] (fun s3 i => isR s3 ∧ isK t.size i) (fun _ i => t.size - (intOf i).toNat)
    case atStart => exact ⟨⟨_, rfl⟩, ⟨k0, hk0, rfl⟩⟩
    case round =>
      obtain ⟨⟨r, rfl⟩, ⟨k, hk, rfl⟩⟩ := hrel
      by_cases hlt : k < t.size
      · have hlt' : (k : Int) < (t.size : Int) := by omega
        go_wp2_with (first | (go_at_call 82; refine (lower_any _ _).mono ?_; rintro e w' ⟨v, rfl, ⟨x, rfl⟩, rfl⟩) | fail)
        all_goals first
          | (go_ret; exact ⟨_, rfl, ⟨_, rfl⟩, rfl⟩)
          | exact ⟨⟨⟨_, rfl⟩, ⟨k + 1, by omega, by go_num⟩⟩, by simp [intOf]; omega⟩
          | (go_round
             case rel => exact ⟨⟨_, rfl⟩, ⟨k + 1, by omega, by go_num⟩⟩
             case measure => simp [intOf]; omega)
      · have hlt' : (t.size : Int) ≤ (k : Int) := by omega
        go_wp2_with fail
        go_ret
        exact ⟨_, rfl, ⟨_, rfl⟩, rfl⟩
end Go.Proofs.YtoeahdefgblmoaaGreatDoor
