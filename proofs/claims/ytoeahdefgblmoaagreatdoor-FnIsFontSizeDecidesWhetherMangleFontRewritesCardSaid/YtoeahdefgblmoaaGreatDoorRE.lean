/-
  shouldRoundUp, RoundedInteger.
-/
import Derived.Test.YtoeahdefgblmoaaGreatDoorRC
namespace Go.Proofs.YtoeahdefgblmoaaGreatDoor
open Go.RowKit Go.Deep Go.PlainAid Go.Maps Go.Sort

/-- A call gives a value of this kind and leaves the world as it was. -/
def Gives (p : Value → Prop) (w : World) (e : Ending) (w' : World) : Prop := ∃ v, e = .returned v ∧ p v ∧ w' = w
def isB (v : Value) : Prop := ∃ x, v = .bool x
def isU (v : Value) : Prop := ∃ x, v = .int .u64 x

set_option maxHeartbeats 1000000 in
set_option maxRecDepth 100000 in
theorem roundup_any (b : Nat) (G : Nat → Int) (nd : Nat) (dp : Int) (ng tr : Bool) (n : Int) (w : World) (hn : nd ≤ 800) (hd : DecAt w b G nd dp ng tr) :
    Calls Tryz.prog 99 #[.pointer (some ⟨b, 0, none⟩), .int .i64 n] w (Gives isB w) := by
  have c0 := hd.cnd
  have c4 := hd.ctr
  by_cases h0 : n < 0
  · clear hd
    go_enter Tryz.func99, Tryz.ntmps99
    go_wp2_with fail
    go_ret
    exact ⟨_, rfl, ⟨_, rfl⟩, rfl⟩
  · obtain ⟨m, rfl⟩ : ∃ m : Nat, n = (m : Int) := ⟨n.toNat, by omega⟩
    by_cases h1 : m < nd
    · have h1' : (m : Int) < (nd : Int) := by omega
      have c1 := hd.dig (i := m) (by omega)
      by_cases hm : m = 0
      · subst hm
        clear hd h0
        go_enter Tryz.func99, Tryz.ntmps99
        go_wp2_with fail
        all_goals (go_ret; exact ⟨_, rfl, ⟨_, rfl⟩, rfl⟩)
      · obtain ⟨q, rfl⟩ : ∃ q, m = q + 1 := ⟨m - 1, by omega⟩
        have c2 := hd.dig (i := q) (by omega)
        clear hd h0 hm
        go_enter Tryz.func99, Tryz.ntmps99
        go_wp2_with fail
        all_goals (go_ret; exact ⟨_, rfl, ⟨_, rfl⟩, rfl⟩)
    · have h1' : (nd : Int) ≤ (m : Int) := by omega
      clear hd
      go_enter Tryz.func99, Tryz.ntmps99
      go_wp2_with fail
      all_goals (go_ret; exact ⟨_, rfl, ⟨_, rfl⟩, rfl⟩)

set_option maxHeartbeats 1000000 in
set_option maxRecDepth 100000 in
theorem rounded_any (b : Nat) (G : Nat → Int) (nd : Nat) (dp : Int) (ng tr : Bool) (w : World) (hn : nd ≤ 800) (hd : DecAt w b G nd dp ng tr) :
    Calls Tryz.prog 93 #[.pointer (some ⟨b, 0, none⟩)] w (Gives isU w) := by
  have c0 := hd.cnd
  have c2 := hd.cdp
  have HD := Lib.hid hd
  have HR := Lib.hid (roundup_any b G nd dp ng tr dp w hn hd)
  clear hd
  by_cases h20 : 20 < dp
  · go_enter Tryz.func93, Tryz.ntmps93
    go_wp2_with fail
    go_ret
    exact ⟨_, rfl, ⟨_, rfl⟩, rfl⟩
  · have h20' : dp ≤ 20 := by omega
    go_enter Tryz.func93, Tryz.ntmps93
    go_wp2_with fail
    go_loop [3, 4] (fun i n => ∃ (k : Nat) (x : Int), i = .int .i64 k ∧ n = .int .u64 x ∧ k ≤ nd) (fun i _ => nd - (intOf i).toNat)
    case atStart => exact ⟨0, 0, rfl, rfl, by omega⟩
    case round =>
      obtain ⟨k, x, rfl, rfl, hk⟩ := hrel
      by_cases h1 : (k : Int) < dp
      · by_cases h2 : k < nd
        · have h2' : (k : Int) < (nd : Int) := by omega
          have c1 := HD.out.dig (i := k) (by omega)
          go_wp2_with fail
          go_round
          case rel => exact ⟨k + 1, _, by go_num, rfl, by omega⟩
          case measure => simp [intOf]; omega
        · have h2' : (nd : Int) ≤ (k : Int) := by omega
          go_wp2_with fail
          go_loop [3, 4] (fun i n => ∃ (k : Nat) (x : Int), i = .int .i64 k ∧ n = .int .u64 x ∧ k ≤ 1000) (fun i _ => (dp - intOf i).toNat)
          case atStart => exact ⟨k, x, rfl, rfl, by omega⟩
          case round =>
            obtain ⟨k, x, rfl, rfl, hk⟩ := hrel
            by_cases h3 : (k : Int) < dp
            · go_wp2_with fail
              go_round
              case rel => exact ⟨k + 1, _, by go_num, rfl, by omega⟩
              case measure => simp [intOf]; omega
            · go_wp2_with fail
              refine HR.out.mono ?_
              rintro e w' ⟨v, rfl, ⟨r, rfl⟩, rfl⟩
              cases r
              all_goals
                go_wp2_with fail
                go_ret
                exact ⟨_, rfl, ⟨_, rfl⟩, rfl⟩
      · go_wp2_with fail
        go_loop [3, 4] (fun i n => ∃ (k : Nat) (x : Int), i = .int .i64 k ∧ n = .int .u64 x ∧ k ≤ 1000) (fun i _ => (dp - intOf i).toNat)
        case atStart => exact ⟨k, x, rfl, rfl, by omega⟩
        case round =>
          obtain ⟨k, x, rfl, rfl, hk⟩ := hrel
          by_cases h3 : (k : Int) < dp
          · go_wp2_with fail
            go_round
            case rel => exact ⟨k + 1, _, by go_num, rfl, by omega⟩
            case measure => simp [intOf]; omega
          · go_wp2_with fail
            refine HR.out.mono ?_
            rintro e w' ⟨v, rfl, ⟨r, rfl⟩, rfl⟩
            cases r
            all_goals
              go_wp2_with fail
              go_ret
              exact ⟨_, rfl, ⟨_, rfl⟩, rfl⟩
end Go.Proofs.YtoeahdefgblmoaaGreatDoor
