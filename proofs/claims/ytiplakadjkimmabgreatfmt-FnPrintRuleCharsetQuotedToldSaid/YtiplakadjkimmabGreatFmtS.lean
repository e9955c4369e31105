/-
  The law FnPrintRuleCharsetQuoted: bytes in lower case, EqualFold and the rest that only reads.
-/
import Derived.Test.YtiplakadjkimmabGreatFmtK
import Derived.Deep.RegionWith
namespace Go.Proofs.YtiplakadjkimmabGreatFmt
open Go.RowKit Go.Deep Go.PlainAid

def low (x : Int) : Int := if 65 ≤ x ∧ x ≤ 90 then x + 32 else x
/-- A text in lower case, byte by byte. -/
def lowb (s : ByteArray) : List Int := (List.range s.size).map fun i => low (bt s i)
/-- All bytes are ASCII. -/
def Asc (s : ByteArray) : Prop := ∀ i, i < s.size → bt s i < 128

theorem bt_range (s : ByteArray) (i : Nat) : 0 ≤ bt s i ∧ bt s i ≤ 255 := by
  unfold bt
  split
  · have := (s[i]).toNat_lt
    omega
  · omega

theorem lowb_eq (s t : ByteArray) (h : s.size = t.size) (he : ∀ i, i < s.size → low (bt s i) = low (bt t i)) : lowb s = lowb t := by
  unfold lowb
  rw [← h]
  exact List.map_congr_left fun i hi => he i (by simpa using hi)
theorem lowb_ne (s t : ByteArray) (h : s.size ≠ t.size) : lowb s ≠ lowb t := fun e => h (by
  have := congrArg List.length e
  unfold lowb at this
  simpa using this)
theorem lowb_ne' (s t : ByteArray) (i : Nat) (hi : i < s.size) (hj : i < t.size) (h : low (bt s i) ≠ low (bt t i)) : lowb s ≠ lowb t := fun e => h (by
  have := congrArg (fun l => l.getD i 0) e
  unfold lowb at this
  simp only [List.getD_eq_getElem?_getD, List.getElem?_map, List.getElem?_range hi, List.getElem?_range hj] at this
  exact this)

set_option maxRecDepth 100000 in
theorem lower_any (x : Int) (w : World) (h0 : 0 ≤ x) (h1 : x < 256) : Calls Tryz.prog 43 #[.int .u8 x] w fun e w' => e = .returned (.int .u8 (low x)) ∧ w = w' := by
  by_cases ha : 65 ≤ x
  · by_cases hb : x ≤ 90
    · have e : low x = x + 32 := by unfold low; rw [if_pos ⟨ha, hb⟩]
      rw [e]
      go_enter Tryz.func43, Tryz.ntmps43
      go_wp2
      go_ret
      exact ⟨by go_num, rfl⟩
    · have e : low x = x := by unfold low; rw [if_neg (by omega)]
      rw [e]
      go_enter Tryz.func43, Tryz.ntmps43
      go_wp2
      go_ret
      exact ⟨rfl, rfl⟩
  · have e : low x = x := by unfold low; rw [if_neg (by omega)]
    rw [e]
    go_enter Tryz.func43, Tryz.ntmps43
    go_wp2
    go_ret
    exact ⟨rfl, rfl⟩

/-- The answer is this; nothing that was there is turned. -/
def Drew (b : Bool) (w : World) (e : Ending) (w' : World) : Prop := e = .returned (.bool b) ∧ ∃ k, w' = w.drewN k

theorem drew_more {w w' : World} (h : ∃ m, w' = w.drewN m) (n : Nat) : ∃ m, w'.drewN n = w.drewN m := by
  obtain ⟨m, rfl⟩ := h
  exact ⟨m + n, World.drewN_drewN _ _ _⟩

set_option maxHeartbeats 4000000 in
set_option maxRecDepth 100000 in
/-- strings.EqualFold of two ASCII texts. -/
theorem equalfold_ascii (s t : ByteArray) (w : World) (hs : s.size < 4611686018427387904) (hS : Asc s) (hT : Asc t) :
    Calls Tryz.prog 50 #[.string s, .string t] w fun e w' => e = .returned (.bool (lowb s == lowb t)) ∧ w = w' := by
  have hb := get_bt s
  have hc := get_bt t
  have HS := Lib.hid hS
  have HT := Lib.hid hT
  have H0 := Lib.hid hs
  rcases Int.lt_or_le (t.size : Int) (s.size : Int) with hle | hle
  all_goals
    have HL := Lib.hid hle
    clear hs hS hT
    go_enter Tryz.func50, Tryz.ntmps50
    go_wp2
    go_step3
    go_wp2
    go_loop [5] (fun i => ∃ k : Nat, k ≤ s.size ∧ k ≤ t.size ∧ i = .int .i64 (k : Int) ∧ ∀ j, j < k → low (bt s j) = low (bt t j)) (fun i => s.size - (intOf i).toNat)
    case atStart => exact ⟨0, by omega, by omega, rfl, fun j hj => by omega⟩
    case round =>
      obtain ⟨k, hks, hkt, rfl, hpre⟩ := hrel
      have HP := Lib.hid hpre
      have hs0 := H0.out
      clear hpre
      by_cases hk : k < s.size ∧ k < t.size
      · have k1 : (k : Int) < (s.size : Int) := by omega
        have k2 : (k : Int) < (t.size : Int) := by omega
        have q1 := HS.out k hk.1
        have q2 := HT.out k hk.2
        have r1 := bt_range s k
        have r2 := bt_range t k
        obtain ⟨x, hx⟩ : ∃ x : Nat, bt s k = x := ⟨(bt s k).toNat, by omega⟩
        obtain ⟨y, hy⟩ : ∃ y : Nat, bt t k = y := ⟨(bt t k).toNat, by omega⟩
        have hor : bits .or .u8 (bt s k) (bt t k) = ((x ||| y : Nat) : Int) := by rw [hx, hy]; exact u8_or_nat _ _ (by omega) (by omega)
        have HK := Lib.hid hk
        have HXY := Lib.hid (And.intro hx hy)
        have hlt : ¬ (128 : Int) ≤ ((x ||| y : Nat) : Int) := by have := Nat.or_lt_two_pow (n := 7) (x := x) (y := y) (by omega) (by omega); omega
        clear hx hy
        go_wp2_with fail
        all_goals have hx := HXY.out.1
        all_goals have hy := HXY.out.2
        all_goals first
          | (go_round
             case rel => exact ⟨k + 1, by omega, by omega, by go_num, fun j hj => by
               rcases Nat.lt_or_ge j k with h | h
               · exact HP.out j h
               · obtain rfl : j = k := by omega
                 simp only [beq_iff_eq, beq_eq_false_iff_ne, ne_eq] at *
                 unfold low
                 split <;> split <;> omega⟩
             case measure => simp [intOf]; omega)
          | (go_ret
             have hne : lowb s ≠ lowb t := lowb_ne' s t k HK.out.1 HK.out.2 (by
               simp only [beq_eq_false_iff_ne, ne_eq] at *
               unfold low
               split <;> split <;> omega)
             exact ⟨by rw [show (lowb s == lowb t) = false by simpa using hne]; rfl, rfl⟩)
      · have hz : (s.size = k ∧ t.size = k) ∨ ¬ s.size = t.size := by omega
        first
          | have hy : ¬ (k : Int) < (t.size : Int) := by omega
          | have hy : ¬ (k : Int) < (s.size : Int) := by omega
        rcases hz with ⟨h1, h2⟩ | hz
        · have hq : ((s.size : Int) == (t.size : Int)) = true := beq_iff_eq.2 (by omega)
          go_wp2_with fail
          go_ret
          exact ⟨by rw [lowb_eq s t (by omega) (fun i hi => HP.out i (by omega))]; simp, rfl⟩
        · have hq : ((s.size : Int) == (t.size : Int)) = false := beq_eq_false_iff_ne.2 (by omega)
          go_wp2_with fail
          go_ret
          exact ⟨by rw [show (lowb s == lowb t) = false by simpa using lowb_ne s t hz]; rfl, rfl⟩


theorem bt_extract (s : ByteArray) (a b k : Nat) (hb : b ≤ s.size) (h : a + k < b) : bt (s.extract a b) k = bt s (a + k) := by
  unfold bt
  rw [dif_pos (by omega : a + k < s.size), dif_pos (by rw [ByteArray.size_extract]; omega)]
  congr 2
  exact ByteArray.getElem_extract ..

theorem size_extract (s : ByteArray) (a b : Nat) (hb : b ≤ s.size) : (s.extract a b).size = b - a := by
  rw [ByteArray.size_extract]; omega

/-- "style". -/
def styl : ByteArray := ⟨#[115, 116, 121, 108, 101]⟩
/-- Does "style" stand there, in whatever case? -/
def sty (s : ByteArray) (k : Nat) : Bool := decide (k + 5 ≤ s.size) && (lowb (s.extract k (k + 5)) == lowb styl)

theorem sty_out (s : ByteArray) (k : Nat) (h : s.size < k + 5) : sty s k = false := by
  unfold sty
  rw [decide_eq_false (by omega)]; rfl
theorem low_styl : ∀ j, j < 5 → low (bt styl j) = bt styl j := by decide
theorem sty_yes (s : ByteArray) (k : Nat) (h : k + 5 ≤ s.size) (he : ∀ j, j < 5 → low (bt s (k + j)) = bt styl j) : sty s k = true := by
  unfold sty
  rw [decide_eq_true h]
  have hsz : (s.extract k (k + 5)).size = 5 := by rw [size_extract _ _ _ h]; omega
  have : lowb (s.extract k (k + 5)) = lowb styl := lowb_eq _ _ (by rw [hsz]; rfl) (fun i hi => by
    rw [hsz] at hi
    rw [bt_extract _ _ _ _ h (by omega), he i hi, low_styl i hi])
  rw [this]; simp
theorem sty_no (s : ByteArray) (k j : Nat) (h : k + 5 ≤ s.size) (hj : j < 5) (he : low (bt s (k + j)) ≠ bt styl j) : sty s k = false := by
  unfold sty
  rw [decide_eq_true h]
  have hsz : (s.extract k (k + 5)).size = 5 := by rw [size_extract _ _ _ h]; omega
  have : lowb (s.extract k (k + 5)) ≠ lowb styl := lowb_ne' _ _ j (by omega) hj (by
    rw [bt_extract _ _ _ _ h (by omega), low_styl j hj]; exact he)
  simpa using this

theorem styl_get (j : Nat) (h : j < 5) : bt styl j = (((⟨#[115, 116, 121, 108, 101]⟩ : ByteArray)[j]'h).toNat : Int) := (get_bt styl j h).symm

set_option maxHeartbeats 1000000 in
set_option maxRecDepth 100000 in
theorem style_any (s : ByteArray) (k : Nat) (w : World) (hs : s.size ≤ 1048576) (hk : k ≤ s.size) : Calls Tryz.prog 23 #[.string s, .int .i64 k] w (Drew (sty s k) w) := by
  by_cases h5 : k + 5 ≤ s.size
  · have e1 : ¬ (s.size : Int) < (k : Int) + 5 := by omega
    have hb := get_bt s
    have HS := Lib.hid hs
    have HK := Lib.hid h5
    have hkb : k ≤ 1048571 := by omega
    clear hs h5 hk
    go_enter Tryz.func23, Tryz.ntmps23
    go_wp2_with fail
    go_loopw [6] (fun i wr => ∃ j : Nat, j ≤ 5 ∧ i = .int .i64 (j : Int) ∧ Hid (∀ q, q < j → low (bt s (k + q)) = bt styl q) ∧ Hid (∃ m, wr = w.drewN m)) (fun i _ => 5 - (intOf i).toNat)
    case atStart => exact ⟨0, by omega, rfl, fun j hj => by omega, 0, rfl⟩
    case round =>
      obtain ⟨j, hj, rfl, HP, HW⟩ := hrel
      have hs0 := HS.out
      have hk0 := HK.out
      by_cases hl : j < 5
      · have k1 : (j : Int) < 5 := by omega
        have k2 : (k : Int) + (j : Int) < (s.size : Int) := by omega
        have e5 := (styl_get j hl).symm
        have r1 := bt_range s (k + j)
        have hls := fun W => lower_any (bt s (k + j)) W r1.1 (by omega)
        have ci : ((k : Int) + (j : Int)).toNat = k + j := by omega
        go_wp2_with fail
        go_quiet (first | (go_at_call_of 43 (Value.int .u8 (bt s (k + j))); exact Calls.quiet_of_same ((hls _).mono fun _ _ h => ⟨h.1, h.2.symm⟩)))
        by_cases he : low (bt s (k + j)) = bt styl j
        · have e3 : (low (bt s (k + j)) != bt styl j) = false := by simpa using he
          go_wp2_with fail
          go_roundw
          case rel =>
            refine ⟨j + 1, by omega, by go_num, fun q hq => ?_, drew_more HW.out _⟩
            rcases Nat.lt_or_ge q j with h | h
            · exact HP.out q h
            · obtain rfl : q = j := by omega
              exact he
          case measure => simp [intOf]; omega
        · have e3 : (low (bt s (k + j)) != bt styl j) = true := by simpa using he
          go_wp2_with fail
          go_ret
          rw [sty_no s k j hk0 hl he]
          exact ⟨rfl, drew_more HW.out _⟩
      · obtain rfl : j = 5 := by omega
        go_wp2_with fail
        go_ret
        rw [sty_yes s k hk0 HP.out]
        exact ⟨rfl, HW.out⟩
  · have e1 : (s.size : Int) < (k : Int) + 5 := by omega
    rw [sty_out s k (by omega)]
    go_enter Tryz.func23, Tryz.ntmps23
    go_wp2_with fail
    go_ret
    exact ⟨rfl, 0, rfl⟩

set_option maxRecDepth 100000 in
/-- DecodeRuneInString where an ASCII byte comes first. -/
theorem rune_any (s : ByteArray) (w : World) (h : 0 < s.size) (h1 : bt s 0 < 128) : Calls Tryz.prog 48 #[.string s] w fun e w' => e = .returned (.tuple #[.int .i32 (bt s 0), .int .i64 1]) ∧ w = w' := by
  have hb := get_bt s
  have r1 := bt_range s 0
  have hne : (s.toList.isEmpty) = false := by
    rw [ByteArray.toList_eq, List.isEmpty_eq_false_iff]
    intro e
    have := bs_len s
    rw [e] at this
    simp at this
    omega
  go_enter Tryz.func48, Tryz.ntmps48
  go_wp2_with fail
  go_ret2
  exact ⟨rfl, rfl⟩

/-- Has of no feature. -/
theorem has_none (w : World) : Calls Tryz.prog 49 #[.int .u16 0, .int .u16 64] w fun e w' => e = .returned (.bool false) ∧ w = w' := by
  go_enter Tryz.func49, Tryz.ntmps49
  go_wp2_with fail
  go_ret
  exact ⟨rfl, rfl⟩

set_option maxRecDepth 100000 in
/-- EncodeRune of an ASCII byte. -/
theorem encode_any (b cap : Nat) (n : Nat) (x : Int) (w : World) (hn : 0 < n) (h0 : 0 ≤ x) (h1 : x < 128) (hc : w.cell? ⟨b, 0, none⟩ = some (.int .u8 0)) (hf : w.frozen? ⟨b, 0, none⟩ = false) :
    Calls Tryz.prog 79 #[.slice (some ⟨b, 0, none⟩) n cap, .int .i32 x] w fun e w' => e = .returned (.int .i64 1) ∧ w' = w.setCell ⟨b, 0, none⟩ (.int .u8 x) := by
  go_enter Tryz.func79, Tryz.ntmps79
  go_wp2_with fail
  go_ret
  exact ⟨rfl, rfl⟩
end Go.Proofs.YtiplakadjkimmabGreatFmt
