/-
  Folding of ASCII texts: the law's own zzFoldEq and strings.EqualFold; the law's counts and tests of its texts.
-/
import Derived.Test.YtnoghiefpdbpbaaGreatFmtE
import Derived.PlainAid
import Derived.Deep.RegionWith
import Derived.Deep.QuietTactic
import Derived.BigQuiet
namespace Go.Proofs.YtnoghiefpdbpbaaGreatFmt
open Go.RowKit Go.Deep Go.PlainAid

def low (x : Int) : Int := if 65 ≤ x ∧ x ≤ 90 then x + 32 else x
/-- A text in lower case, byte by byte. -/
def lowb (s : ByteArray) : List Int := (List.range s.size).map fun i => low (bt s i)
/-- All bytes are ASCII. -/
def Asc (s : ByteArray) : Prop := ∀ i, i < s.size → bt s i < 128

theorem bt_range (s : ByteArray) (i : Nat) : 0 ≤ bt s i ∧ bt s i ≤ 255 := by
  unfold bt
  split
  · have := (s[i]).toNat_lt
    omega
  · omega

theorem lowb_eq (s t : ByteArray) (h : s.size = t.size) (he : ∀ i, i < s.size → low (bt s i) = low (bt t i)) : lowb s = lowb t := by
  unfold lowb
  rw [← h]
  exact List.map_congr_left fun i hi => he i (by simpa using hi)
theorem lowb_ne (s t : ByteArray) (h : s.size ≠ t.size) : lowb s ≠ lowb t := fun e => h (by
  have := congrArg List.length e
  unfold lowb at this
  simpa using this)
theorem lowb_ne' (s t : ByteArray) (i : Nat) (hi : i < s.size) (hj : i < t.size) (h : low (bt s i) ≠ low (bt t i)) : lowb s ≠ lowb t := fun e => h (by
  have := congrArg (fun l => l.getD i 0) e
  unfold lowb at this
  simp only [List.getD_eq_getElem?_getD, List.getElem?_map, List.getElem?_range hi, List.getElem?_range hj] at this
  exact this)

set_option maxRecDepth 100000 in
theorem lower_any (x : Int) (w : World) (h0 : 0 ≤ x) (h1 : x < 256) : Calls Tryz.prog 24 #[.int .u8 x] w fun e w' => e = .returned (.int .u8 (low x)) ∧ w = w' := by
  by_cases ha : 65 ≤ x
  · by_cases hb : x ≤ 90
    · have e : low x = x + 32 := by unfold low; rw [if_pos ⟨ha, hb⟩]
      rw [e]
      go_enter Tryz.func24, Tryz.ntmps24
      go_wp2
      go_ret
      exact ⟨by go_num, rfl⟩
    · have e : low x = x := by unfold low; rw [if_neg (by omega)]
      rw [e]
      go_enter Tryz.func24, Tryz.ntmps24
      go_wp2
      go_ret
      exact ⟨rfl, rfl⟩
  · have e : low x = x := by unfold low; rw [if_neg (by omega)]
    rw [e]
    go_enter Tryz.func24, Tryz.ntmps24
    go_wp2
    go_ret
    exact ⟨rfl, rfl⟩

/-- The answer is this; nothing that was there is turned. -/
def Drew (b : Bool) (w : World) (e : Ending) (w' : World) : Prop := e = .returned (.bool b) ∧ ∃ k, w' = w.drewN k

theorem drew_more {w w' : World} (h : ∃ m, w' = w.drewN m) (n : Nat) : ∃ m, w'.drewN n = w.drewN m := by
  obtain ⟨m, rfl⟩ := h
  exact ⟨m + n, World.drewN_drewN _ _ _⟩

set_option maxHeartbeats 1000000 in
set_option maxRecDepth 100000 in
theorem foldeq_any (s t : ByteArray) (w : World) (hs : s.size < 4611686018427387904) : Calls Tryz.prog 14 #[.string s, .string t] w (Drew (lowb s == lowb t) w) := by
  have hb := get_bt s
  have hc := get_bt t
  by_cases hst : s.size = t.size
  · have e1 : ((s.size : Int) != (t.size : Int)) = false := by simp [hst]
    have HT := Lib.hid hst
    have H0 := Lib.hid hs
    clear hst hs
    go_enter Tryz.func14, Tryz.ntmps14
    go_wp2_with fail
    go_loopw [5] (fun i wr => ∃ k : Nat, k ≤ s.size ∧ i = .int .i64 (k : Int) ∧ Hid (∀ j, j < k → low (bt s j) = low (bt t j)) ∧ Hid (∃ m, wr = w.drewN m)) (fun i _ => s.size - (intOf i).toNat)
    case atStart => exact ⟨0, by omega, rfl, fun j hj => by omega, 0, rfl⟩
    case round =>
      obtain ⟨k, hk, rfl, HP, HW⟩ := hrel
      have hs0 := H0.out
      have ht0 := HT.out
      have r1 := bt_range s k
      have r2 := bt_range t k
      rcases Nat.lt_or_ge k s.size with hl | hl
      · have hlt : (k : Int) < (s.size : Int) := by omega
        have hlt' : (k : Int) < (t.size : Int) := by omega
        have hls := fun W => lower_any (bt s k) W (by omega) (by omega)
        have hlu := fun W => lower_any (bt t k) W (by omega) (by omega)
        obtain ⟨x, ex⟩ : ∃ x, x = low (bt s k) := ⟨_, rfl⟩
        obtain ⟨y, ey⟩ : ∃ y, y = low (bt t k) := ⟨_, rfl⟩
        rw [← ex] at hls
        rw [← ey] at hlu
        have HX := Lib.hid (And.intro ex ey)
        clear ex ey
        go_wp2_with fail
        go_quiet (first | (go_at_call_of 24 (Value.int .u8 (bt s k)); exact Calls.quiet_of_same ((hls _).mono fun _ _ h => ⟨h.1, h.2.symm⟩)) | (go_at_call_of 24 (Value.int .u8 (bt t k)); exact Calls.quiet_of_same ((hlu _).mono fun _ _ h => ⟨h.1, h.2.symm⟩)))
        by_cases hxy : x = y
        · have e3 : (x != y) = false := by simpa using hxy
          go_wp2_with fail
          go_roundw
          case rel =>
            refine ⟨k + 1, by omega, by go_num, fun j hj => ?_, drew_more HW.out _⟩
            rcases Nat.lt_or_ge j k with h | h
            · exact HP.out j h
            · obtain rfl : j = k := by omega
              rw [← HX.out.1, ← HX.out.2]; exact hxy
          case measure => simp [intOf]; omega
        · have e3 : (x != y) = true := by simpa using hxy
          go_wp2_with fail
          go_ret
          have hne := lowb_ne' s t k hl (by omega) (by rw [← HX.out.1, ← HX.out.2]; exact hxy)
          exact ⟨by rw [show (lowb s == lowb t) = false by simpa using hne]; rfl, drew_more HW.out _⟩
      · obtain rfl : k = s.size := by omega
        go_wp2_with fail
        go_ret
        exact ⟨by rw [lowb_eq s t ht0 HP.out]; simp, HW.out⟩
  · have e1 : ((s.size : Int) != (t.size : Int)) = true := by simp; omega
    have hn := lowb_ne s t hst
    have e2 : (lowb s == lowb t) = false := by simpa using hn
    rw [e2]
    go_enter Tryz.func14, Tryz.ntmps14
    go_wp2_with fail
    go_ret
    exact ⟨rfl, 0, rfl⟩

set_option maxHeartbeats 4000000 in
set_option maxRecDepth 100000 in
/-- strings.EqualFold of two ASCII texts. -/
theorem equalfold_ascii (s t : ByteArray) (w : World) (hs : s.size < 4611686018427387904) (hS : Asc s) (hT : Asc t) :
    Calls Tryz.prog 27 #[.string s, .string t] w fun e w' => e = .returned (.bool (lowb s == lowb t)) ∧ w = w' := by
  have hb := get_bt s
  have hc := get_bt t
  have HS := Lib.hid hS
  have HT := Lib.hid hT
  have H0 := Lib.hid hs
  rcases Int.lt_or_le (t.size : Int) (s.size : Int) with hle | hle
  all_goals
    have HL := Lib.hid hle
    clear hs hS hT
    go_enter Tryz.func27, Tryz.ntmps27
    go_wp2
    go_step3
    go_wp2
    go_loop [5] (fun i => ∃ k : Nat, k ≤ s.size ∧ k ≤ t.size ∧ i = .int .i64 (k : Int) ∧ ∀ j, j < k → low (bt s j) = low (bt t j)) (fun i => s.size - (intOf i).toNat)
    case atStart => exact ⟨0, by omega, by omega, rfl, fun j hj => by omega⟩
    case round =>
      obtain ⟨k, hks, hkt, rfl, hpre⟩ := hrel
      have HP := Lib.hid hpre
      have hs0 := H0.out
      clear hpre
      by_cases hk : k < s.size ∧ k < t.size
      · have k1 : (k : Int) < (s.size : Int) := by omega
        have k2 : (k : Int) < (t.size : Int) := by omega
        have q1 := HS.out k hk.1
        have q2 := HT.out k hk.2
        have r1 := bt_range s k
        have r2 := bt_range t k
        obtain ⟨x, hx⟩ : ∃ x : Nat, bt s k = x := ⟨(bt s k).toNat, by omega⟩
        obtain ⟨y, hy⟩ : ∃ y : Nat, bt t k = y := ⟨(bt t k).toNat, by omega⟩
        have hor : bits .or .u8 (bt s k) (bt t k) = ((x ||| y : Nat) : Int) := by rw [hx, hy]; exact u8_or_nat _ _ (by omega) (by omega)
        have HK := Lib.hid hk
        have HXY := Lib.hid (And.intro hx hy)
        have hlt : ¬ (128 : Int) ≤ ((x ||| y : Nat) : Int) := by have := Nat.or_lt_two_pow (n := 7) (x := x) (y := y) (by omega) (by omega); omega
        clear hx hy
        go_wp2_with fail
        all_goals have hx := HXY.out.1
        all_goals have hy := HXY.out.2
        all_goals first
          | (go_round
             case rel => exact ⟨k + 1, by omega, by omega, by go_num, fun j hj => by
               rcases Nat.lt_or_ge j k with h | h
               · exact HP.out j h
               · obtain rfl : j = k := by omega
                 simp only [beq_iff_eq, beq_eq_false_iff_ne, ne_eq] at *
                 unfold low
                 split <;> split <;> omega⟩
             case measure => simp [intOf]; omega)
          | (go_ret
             have hne : lowb s ≠ lowb t := lowb_ne' s t k HK.out.1 HK.out.2 (by
               simp only [beq_eq_false_iff_ne, ne_eq] at *
               unfold low
               split <;> split <;> omega)
             exact ⟨by rw [show (lowb s == lowb t) = false by simpa using hne]; rfl, rfl⟩)
      · have hz : (s.size = k ∧ t.size = k) ∨ ¬ s.size = t.size := by omega
        first
          | have hy : ¬ (k : Int) < (t.size : Int) := by omega
          | have hy : ¬ (k : Int) < (s.size : Int) := by omega
        rcases hz with ⟨h1, h2⟩ | hz
        · have hq : ((s.size : Int) == (t.size : Int)) = true := beq_iff_eq.2 (by omega)
          go_wp2_with fail
          go_ret
          exact ⟨by rw [lowb_eq s t (by omega) (fun i hi => HP.out i (by omega))]; simp, rfl⟩
        · have hq : ((s.size : Int) == (t.size : Int)) = false := beq_eq_false_iff_ne.2 (by omega)
          go_wp2_with fail
          go_ret
          exact ⟨by rw [show (lowb s == lowb t) = false by simpa using lowb_ne s t hz]; rfl, rfl⟩

set_option maxRecDepth 100000 in
/-- zzIsASCII says yes of ASCII texts alone. -/
theorem ascii_any (s : ByteArray) (w : World) (hs : s.size < 4611686018427387904) : Calls Tryz.prog 9 #[.string s] w (SomeBool (fun b => b = true → Asc s) w) := by
  have hb := get_bt s
  have H0 := Lib.hid hs
  clear hs
  go_enter Tryz.func9, Tryz.ntmps9
  go_wp2_with fail
  go_loop [3] (fun i => ∃ k : Nat, k ≤ s.size ∧ i = .int .i64 (k : Int) ∧ ∀ j, j < k → bt s j < 128) (fun i => s.size - (intOf i).toNat)
  case atStart => exact ⟨0, by omega, rfl, fun j hj => by omega⟩
  case round =>
    obtain ⟨k, hk, rfl, hpre⟩ := hrel
    have HP := Lib.hid hpre
    have hs0 := H0.out
    clear hpre
    by_cases hl : k < s.size
    · have k1 : (k : Int) < (s.size : Int) := by omega
      by_cases h128 : (128 : Int) ≤ bt s k
      · go_wp2_with fail
        go_ret
        exact ⟨false, (fun h => by cases h), rfl, rfl⟩
      · go_wp2_with fail
        go_round
        case rel => exact ⟨k + 1, by omega, by go_num, fun j hj => by
          rcases Nat.lt_or_ge j k with h | h
          · exact HP.out j h
          · obtain rfl : j = k := by omega
            omega⟩
        case measure => simp [intOf]; omega
    · obtain rfl : k = s.size := by omega
      go_wp2_with fail
      go_ret
      exact ⟨true, (fun _ => HP.out), rfl, rfl⟩

set_option maxRecDepth 100000 in
set_option maxHeartbeats 1000000 in
/-- zzBytes_FnSumSimplifyGroupsByUnit: where it says yes, the slices and the texts are short. -/
theorem zz7_any (a0 a1 a2 : Option Addr) (n0 n1 n2 c0 c1 c2 : Nat) (us : List ByteArray) (w : World) (h0 : n0 ≤ 9223372036854775807) (h1 : n1 ≤ 9223372036854775807) (h2 : n2 ≤ 9223372036854775807) (hl : us.length = n0) (hu : Slc Value.string ByteArray.empty w a0 us) :
    Calls Tryz.prog 7 #[.slice a0 n0 c0, .slice a1 n1 c1, .slice a2 n2 c2] w (SomeBool (fun b => b = true → n0 ≤ 1048576 ∧ n1 ≤ 1048576 ∧ n2 ≤ 1048576 ∧ ∀ i, i < n0 → (us.getD i ByteArray.empty).size ≤ 1048576) w) := by
  have HU := Lib.hid hu
  have HL := Lib.hid hl
  clear hu hl
  by_cases hn0 : (1048576 : Int) < (n0 : Int)
  · go_enter Tryz.func7, Tryz.ntmps7
    go_wp2_with fail
    go_ret
    exact ⟨false, (fun h => by cases h), rfl, rfl⟩
  go_enter Tryz.func7, Tryz.ntmps7
  go_wp2_with fail
  go_loop [7, 8] (fun z i => ∃ (k m : Nat), k ≤ n0 ∧ m ≤ 1048576 ∧ z = .int .i64 m ∧ i = .int .i64 (k : Int) ∧ ∀ j, j < k → (us.getD j ByteArray.empty).size ≤ 1048576) (fun _ i => n0 - (intOf i).toNat)
  case atStart => exact ⟨0, n0, by omega, by omega, rfl, rfl, fun j hj => by omega⟩
  case round =>
    obtain ⟨k, m, hk, hm, rfl, rfl, hpre⟩ := hrel
    have HP := Lib.hid hpre
    clear hpre
    by_cases hlk : k < n0
    · obtain ⟨b, o, e, hc⟩ := HU.out k (by rw [HL.out]; exact hlk)
      subst e
      obtain ⟨u, eu⟩ : ∃ u, u = us.getD k ByteArray.empty := ⟨_, rfl⟩
      rw [← eu] at hc
      have HE := Lib.hid eu
      clear eu
      have k1 : (k : Int) < (n0 : Int) := by omega
      by_cases hb : (1048576 : Int) < (u.size : Int)
      · go_wp2_with fail
        go_ret
        exact ⟨false, (fun h => by cases h), rfl, rfl⟩
      · by_cases hb2 : (1048576 : Int) < (m : Int) + (u.size : Int)
        · go_wp2_with fail
          go_ret
          exact ⟨false, (fun h => by cases h), rfl, rfl⟩
        · go_wp2_with fail
          go_round
          case rel => exact ⟨k + 1, m + u.size, by omega, by omega, by go_num, by go_num, fun j hj => by
            rcases Nat.lt_or_ge j k with h | h
            · exact HP.out j h
            · obtain rfl : j = k := by omega
              rw [← HE.out]; omega⟩
          case measure => simp [intOf]; omega
    · obtain rfl : k = n0 := by omega
      go_wp2_with fail
      all_goals
        go_ret
        exact ⟨_, fun h => by first | (cases h; done) | exact ⟨by omega, by omega, by omega, HP.out⟩, rfl, rfl⟩

set_option maxRecDepth 100000 in
set_option maxHeartbeats 1000000 in
/-- zzTermBytes answers a number. -/
theorem bytes8_any (a0 a1 a2 : Option Addr) (n0 n1 n2 c0 c1 c2 : Nat) (us : List ByteArray) (w : World) (h0 : n0 ≤ 1048576) (h1 : n1 ≤ 1048576) (h2 : n2 ≤ 1048576) (hl : us.length = n0) (hs : ∀ i, i < n0 → (us.getD i ByteArray.empty).size ≤ 1048576) (hu : Slc Value.string ByteArray.empty w a0 us) :
    Calls Tryz.prog 8 #[.slice a0 n0 c0, .slice a1 n1 c1, .slice a2 n2 c2] w (SomeInt (fun _ => True) w) := by
  have HU := Lib.hid hu
  have HL := Lib.hid hl
  have HS := Lib.hid hs
  clear hu hl hs
  have k0 : ¬ (1048576 : Int) < (n0 : Int) := by omega
  have k1 : ¬ (1048576 : Int) < (n1 : Int) := by omega
  have k2 : ¬ (1048576 : Int) < (n2 : Int) := by omega
  go_enter Tryz.func8, Tryz.ntmps8
  go_wp2_with fail
  go_loop [7, 8] (fun z i => ∃ (k m : Nat), k ≤ n0 ∧ m ≤ 10485760 ∧ z = .int .i64 m ∧ i = .int .i64 (k : Int)) (fun _ i => n0 - (intOf i).toNat)
  case atStart => exact ⟨0, 8 * n1 + n2, by omega, by omega, by go_num, rfl⟩
  case round =>
    obtain ⟨k, m, hk, hm, rfl, rfl⟩ := hrel
    by_cases hlk : k < n0
    · obtain ⟨b, o, e, hc⟩ := HU.out k (by rw [HL.out]; exact hlk)
      subst e
      have hsk := HS.out k hlk
      obtain ⟨u, eu⟩ : ∃ u, u = us.getD k ByteArray.empty := ⟨_, rfl⟩
      rw [← eu] at hc hsk
      clear eu
      have k3 : (k : Int) < (n0 : Int) := by omega
      have k4 : ¬ (1048576 : Int) < (u.size : Int) := by omega
      by_cases hb2 : (1048576 : Int) < (m : Int) + (16 + (u.size : Int))
      · go_wp2_with fail
        go_ret
        exact ⟨_, trivial, rfl, rfl⟩
      · go_wp2_with fail
        go_round
        case rel => exact ⟨k + 1, m + (16 + u.size), by omega, by omega, by go_num, by go_num⟩
        case measure => simp [intOf]; omega
    · obtain rfl : k = n0 := by omega
      go_wp2_with fail
      go_ret
      exact ⟨_, trivial, rfl, rfl⟩
end Go.Proofs.YtnoghiefpdbpbaaGreatFmt
