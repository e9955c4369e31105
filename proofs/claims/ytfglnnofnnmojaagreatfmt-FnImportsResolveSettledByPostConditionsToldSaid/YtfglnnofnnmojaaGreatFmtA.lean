/-
  Contracts of the small functions of the law on imports (bytes counted, strings cloned, premises tested): plain walks.
-/
import Derived.Test.YtfglnnofnnmojaaGreatFmtProg
import Derived.WalkKit
import Derived.WalkLawsBesides
import Derived.WalkSpells
import Derived.Lib.Hide
import Derived.Deep.QuietTactic
import Derived.BigQuiet
import Derived.Lib.Strings
import Derived.Lib.Slices
import Derived.Lib.Walk
import Derived.Lib.Bytealg
import Derived.Deep.DeepFit
import Derived.Outline
namespace Go.Proofs.YtfglnnofnnmojaaGreatFmt
open Go.RowKit

/-- A slice value's address and the strings that it leads to. -/
def Strs (w : World) (a : Option Addr) (ss : List ByteArray) : Prop :=
  ∀ i, i < ss.length → ∃ b off, a = some ⟨b, off, none⟩ ∧ w.cell? ⟨b, off + i, none⟩ = some (.string (ss.getD i ByteArray.empty))

/-- An int with something said of it. -/
def SomeInt (P : Int → Prop) (w : World) (e : Ending) (w' : World) : Prop := ∃ n : Int, P n ∧ e = .returned (.int .i64 n) ∧ w = w'
/-- A bool with something said of it. -/
def SomeBool (P : Bool → Prop) (w : World) (e : Ending) (w' : World) : Prop := ∃ b : Bool, P b ∧ e = .returned (.bool b) ∧ w = w'
def Small (ss : List ByteArray) : Prop := ∀ i, i < ss.length → (ss.getD i ByteArray.empty).size ≤ 1048576

set_option maxHeartbeats 400000 in
/-- zzStringsBytes. -/
theorem bytes_any (a : Option Addr) (cap : Nat) (ss : List ByteArray) (w : World) (hs : Strs w a ss) (hb : Small ss) (hl : ss.length ≤ 1048576) :
    Calls Tryz.prog 5 #[.slice a ss.length cap] w (SomeInt (fun n => 0 ≤ n ∧ n ≤ 2097168) w) := by
  have HS := Lib.hid hs
  have HB := Lib.hid hb
  clear hs hb
  obtain ⟨len, hlen⟩ : ∃ len, len = ss.length := ⟨_, rfl⟩
  rw [← hlen] at hl ⊢
  have HL := Lib.hid hlen
  clear hlen
  go_enter Tryz.func5, Tryz.ntmps5
  go_wp2
  go_loop [3, 4] (fun n i => ∃ (k : Nat) (m : Int), k ≤ len ∧ i = .int .i64 k ∧ n = .int .i64 m ∧ 0 ≤ m ∧ m ≤ 1048576) (fun _ i => len - (intOf i).toNat)
  case atStart => exact ⟨0, 0, Nat.zero_le _, rfl, rfl, by omega, by omega⟩
  case round =>
    obtain ⟨k, m, hk, rfl, rfl, hm0, hm1⟩ := hrel
    by_cases hlt : k < len
    · obtain ⟨b, off, rfl, hc⟩ := HS.out k (by rw [← HL.out]; exact hlt)
      have hsz := HB.out k (by rw [← HL.out]; exact hlt)
      obtain ⟨s, hsk⟩ : ∃ s, s = ss.getD k ByteArray.empty := ⟨_, rfl⟩
      rw [← hsk] at hc hsz
      clear hsk
      go_wp2
      · go_ret
        exact ⟨_, ⟨by omega, by omega⟩, rfl, rfl⟩
      · go_round
        case rel => exact ⟨k + 1, _, by omega, by go_num, rfl, by omega, by omega⟩
        case measure => simp [intOf]; omega
    · go_wp2
      go_ret
      exact ⟨_, ⟨by omega, by omega⟩, rfl, rfl⟩

/-- zzBytes_FnImportsResolveSettledByPostConditions. -/
def Fits (s : ByteArray) (ss1 ss2 : List ByteArray) : Prop := s.size ≤ 1048576 ∧ ss1.length ≤ 1048576 ∧ Small ss1 ∧ ss2.length ≤ 1048576 ∧ Small ss2

set_option maxHeartbeats 800000 in
theorem zz_any (s : ByteArray) (kd t1 t2 : Int) (a1 a2 : Option Addr) (c1 c2 : Nat) (ss1 ss2 : List ByteArray) (w : World) (h1 : Strs w a1 ss1) (h2 : Strs w a2 ss2) :
    Calls Tryz.prog 4 #[.string s, .int .u8 kd, .slice a1 ss1.length c1, .int .i32 t1, .int .i32 t2, .slice a2 ss2.length c2] w (SomeBool (fun b => b = true → Fits s ss1 ss2) w) := by
  have H1 := Lib.hid h1
  have H2 := Lib.hid h2
  clear h1 h2
  obtain ⟨n1, hn1⟩ : ∃ n, n = ss1.length := ⟨_, rfl⟩
  obtain ⟨n2, hn2⟩ : ∃ n, n = ss2.length := ⟨_, rfl⟩
  rw [← hn1, ← hn2]
  have N1 := Lib.hid hn1
  have N2 := Lib.hid hn2
  clear hn1 hn2
  go_enter Tryz.func4, Tryz.ntmps4
  go_wp2
  all_goals try (go_ret; exact ⟨false, (fun h => by cases h), rfl, rfl⟩)
  go_loop [13, 14] (fun n i => ∃ (k : Nat) (m : Int), k ≤ n1 ∧ i = .int .i64 k ∧ n = .int .i64 m ∧ 0 ≤ m ∧ m ≤ 1048576 ∧ Hid (∀ j, j < k → (ss1.getD j ByteArray.empty).size ≤ 1048576)) (fun _ i => n1 - (intOf i).toNat)
  case atStart => exact ⟨0, _, Nat.zero_le _, rfl, rfl, by omega, by omega, fun j h => by omega⟩
  case round =>
    obtain ⟨k, m, hk, rfl, rfl, hm0, hm1, hsm⟩ := hrel
    by_cases hlt : k < n1
    · obtain ⟨b, off, rfl, hc⟩ := H1.out k (by rw [← N1.out]; exact hlt)
      obtain ⟨x, hx⟩ : ∃ x, x = ss1.getD k ByteArray.empty := ⟨_, rfl⟩
      rw [← hx] at hc
      have HX := Lib.hid hx
      clear hx
      go_wp2
      all_goals try (go_ret; exact ⟨false, (fun h => by cases h), rfl, rfl⟩)
      have hsz : (x.size : Int) ≤ 1048576 := by omega
      go_round
      case rel => exact ⟨k + 1, _, by omega, by go_num, rfl, by omega, by omega, fun j h => by
        rcases Nat.lt_or_ge j k with h' | h'
        · exact hsm.out j h'
        · obtain rfl : j = k := by omega
          rw [← HX.out]; omega⟩
      case measure => simp [intOf]; omega
    · obtain rfl : k = n1 := by omega
      have S1 : Hid (Small ss1) := fun j h => hsm.out j (by rw [N1.out]; exact h)
      clear hsm
      go_wp2
      all_goals try (go_ret; exact ⟨false, (fun h => by cases h), rfl, rfl⟩)
      go_loop [13, 15] (fun n i => ∃ (k : Nat) (m : Int), k ≤ n2 ∧ i = .int .i64 k ∧ n = .int .i64 m ∧ 0 ≤ m ∧ m ≤ 1048576 ∧ Hid (∀ j, j < k → (ss2.getD j ByteArray.empty).size ≤ 1048576)) (fun _ i => n2 - (intOf i).toNat)
      case atStart => exact ⟨0, _, Nat.zero_le _, rfl, rfl, by omega, by omega, fun j h => by omega⟩
      case round =>
        obtain ⟨k, m, hk, rfl, rfl, hm0, hm1, hsm⟩ := hrel
        by_cases hlt : k < n2
        · obtain ⟨b, off, rfl, hc⟩ := H2.out k (by rw [← N2.out]; exact hlt)
          obtain ⟨x, hx⟩ : ∃ x, x = ss2.getD k ByteArray.empty := ⟨_, rfl⟩
          rw [← hx] at hc
          have HX := Lib.hid hx
          clear hx
          go_wp2
          all_goals try (go_ret; exact ⟨false, (fun h => by cases h), rfl, rfl⟩)
          have hsz : (x.size : Int) ≤ 1048576 := by omega
          go_round
          case rel => exact ⟨k + 1, _, by omega, by go_num, rfl, by omega, by omega, fun j h => by
            rcases Nat.lt_or_ge j k with h' | h'
            · exact hsm.out j h'
            · obtain rfl : j = k := by omega
              rw [← HX.out]; omega⟩
          case measure => simp [intOf]; omega
        · obtain rfl : k = n2 := by omega
          have S2 : Hid (Small ss2) := fun j h => hsm.out j (by rw [N2.out]; exact h)
          clear hsm
          go_wp2
          go_ret
          refine ⟨true, fun _ => ⟨by omega, by rw [← N1.out]; omega, S1.out, by rw [← N2.out]; omega, S2.out⟩, rfl, rfl⟩

/-- Is the text an expansion key? -/
def expB (s : ByteArray) : Bool := Lib.hasSuffix s.data.toList [47] || decide (0 ≤ Lib.indexByte s.data.toList 42)

theorem indexByte_mem (c : UInt8) : ∀ l : List UInt8, c ∈ l → 0 ≤ Lib.indexByte l c
  | [], h => by cases h
  | b :: l, h => by
    unfold Lib.indexByte
    by_cases e : b = c
    · simp [e]
    · have hm : c ∈ l := by
        rcases List.mem_cons.1 h with h | h
        · exact absurd h.symm e
        · exact h
      have := indexByte_mem c l hm
      have e' : (b == c) = false := by simpa using e
      have e2 : (Lib.indexByte l c == -1) = false := by
        rw [beq_eq_false_iff_ne]; omega
      simp only [e', e2]
      simp
      omega

theorem exp_star (s : ByteArray) (k : Nat) (h : k < s.size) (hc : ((s[k].toNat : Nat) : Int) = 42) : expB s = true := by
  have hm : (42 : UInt8) ∈ s.data.toList := by
    have e : s[k] = 42 := by
      apply UInt8.toNat_inj.1
      have h42 : (42 : UInt8).toNat = 42 := rfl
      omega
    rw [← e]
    show s.data[k] ∈ _
    exact Array.getElem_mem_toList _
  unfold expB
  have := indexByte_mem 42 _ hm
  simp [this]

theorem exp_slash (s : ByteArray) (h : 0 < s.size) (hc : ((s[s.size - 1].toNat : Nat) : Int) = 47) : expB s = true := by
  have e : s[s.size - 1] = 47 := by
    apply UInt8.toNat_inj.1
    have h47 : (47 : UInt8).toNat = 47 := rfl
    omega
  have hl : s.data.toList ≠ [] := by
    intro h0
    have : s.data.size = 0 := by
      have := congrArg List.length h0
      simpa using this
    have h' : s.size = s.data.size := rfl
    omega
  have : Lib.hasSuffix s.data.toList [47] = true := by
    unfold Lib.hasSuffix
    rw [List.isSuffixOf_iff_suffix]
    refine ⟨s.data.toList.dropLast, ?_⟩
    have hg : s.data.toList.getLast hl = 47 := by
      rw [List.getLast_eq_getElem]
      rw [← e]
      simp
      rfl
    rw [← hg]
    exact List.dropLast_concat_getLast hl
  unfold expB
  simp [this]

set_option maxHeartbeats 400000 in
theorem exp_any (s : ByteArray) (w : World) (hs : s.size ≤ 1048576) : Calls Tryz.prog 13 #[.string s] w (SomeBool (fun b => b = true → expB s = true) w) := by
  by_cases h0 : 0 < s.size
  · by_cases h1 : ((s[s.size - 1].toNat : Nat) : Int) = 47
    · have HE := Lib.hid (exp_slash s h0 h1)
      have hb : (((s[s.size - 1].toNat : Nat) : Int) == 47) = true := by simpa using h1
      clear h1
      go_enter Tryz.func13, Tryz.ntmps13
      go_wp2
      go_ret
      exact ⟨true, fun _ => HE.out, rfl, rfl⟩
    · have hb : (((s[s.size - 1].toNat : Nat) : Int) == 47) = false := by simpa using h1
      clear h1
      go_enter Tryz.func13, Tryz.ntmps13
      go_wp2
      go_loop [3] (fun i => ∃ k : Nat, k ≤ s.size ∧ i = .int .i64 k) (fun i => s.size - (intOf i).toNat)
      case atStart => exact ⟨0, Nat.zero_le _, rfl⟩
      case round =>
        obtain ⟨k, hk, rfl⟩ := hrel
        by_cases hlt : k < s.size
        · by_cases h2 : ((s[k].toNat : Nat) : Int) = 42
          · have HE := Lib.hid (exp_star s k hlt h2)
            have hb2 : (((s[k].toNat : Nat) : Int) == 42) = true := by simpa using h2
            clear h2
            go_wp2
            go_ret
            exact ⟨true, fun _ => HE.out, rfl, rfl⟩
          · have hb2 : (((s[k].toNat : Nat) : Int) == 42) = false := by simpa using h2
            clear h2
            go_wp2
            go_round
            case rel => exact ⟨k + 1, by omega, by go_num⟩
            case measure => simp [intOf]; omega
        · go_wp2
          go_ret
          exact ⟨false, (fun h => by cases h), rfl, rfl⟩
  · have hz : ¬ (0 : Int) < (s.size : Int) := by omega
    go_enter Tryz.func13, Tryz.ntmps13
    go_wp2
    refine wp_loop_rounds 1 ?_
    rw [rounds_succ]
    go_wp2
    go_ret
    exact ⟨false, (fun h => by cases h), rfl, rfl⟩

set_option maxHeartbeats 400000 in
theorem dot_any (s : ByteArray) (w : World) : Calls Tryz.prog 18 #[.string s] w (SomeBool (fun _ => True) w) := by
  by_cases h0 : 0 < s.size
  · go_enter Tryz.func18, Tryz.ntmps18
    go_wp2
    go_ret
    exact ⟨_, trivial, rfl, rfl⟩
  · have hz : ¬ (0 : Int) < (s.size : Int) := by omega
    go_enter Tryz.func18, Tryz.ntmps18
    go_wp2
    go_ret
    exact ⟨_, trivial, rfl, rfl⟩

end Go.Proofs.YtfglnnofnnmojaaGreatFmt
