/-
  The law FnRuleBlockMinifiedIsPrettyWithoutLayout: its walk.
-/
import Derived.Test.YtiplakadjkimmabGreatFmtQ
namespace Go.Proofs.YtiplakadjkimmabGreatFmt
open Go.RowKit Go.Deep

theorem blkR_len (mn : Bool) (k m : Nat) (us : List ByteArray) (n : Nat) (hn : us.length = n) (hb : n ≤ 131072) (hk : k ≤ 65537) (hm : m ≤ 65537) (ht : ∀ i, i < n → (us.getD i ByteArray.empty).size ≤ 1048576) : (blkR mn k m us).length ≤ 300000000000 := by
  have h := allR_take_len mn k us us.length hk (fun i hi => ht i (by omega))
  rw [List.take_of_length_le (Nat.le_refl _)] at h
  have h2 : us.length * 2000000 ≤ 131072 * 2000000 := by omega
  cases mn
  · simp [blkR]; omega
  · simp [blkR]; omega

theorem no_ten {us : List ByteArray} {n : Nat} (hn : us.length = n) (h : ∀ i, i < n → ∀ c ∈ (us.getD i ByteArray.empty).data.toList, c ≠ 10) : ∀ t ∈ us, ∀ c ∈ t.data.toList, c ≠ 10 := fun t ht c hc => by
  obtain ⟨i, hi, e⟩ := List.mem_iff_getElem.1 ht
  have h2 := h i (by omega)
  rw [List.getD_eq_getElem?_getD, List.getElem?_eq_getElem hi] at h2
  exact h2 c (by show c ∈ us[i].data.toList; rw [e]; exact hc)

/-- A text without newlines. -/
def NoNl (s : ByteArray) : Prop := ∀ c ∈ s.data.toList, c ≠ 10

set_option maxHeartbeats 4000000 in
set_option maxRecDepth 100000 in
theorem law4 (a0 : Option Addr) (n c0 : Nat) (z : Int) (us : List ByteArray) (w : World) (hl : us.length = n) (hz : -2147483648 ≤ z) (hz2 : z ≤ 2147483647) (hu : Slc Value.string ByteArray.empty w a0 us)
    (h9 : Calls Tryz.prog 9 #[.slice a0 n c0, .int .i32 z] w (SomeBool (fun b => b = true → n ≤ 1048576 ∧ ∀ i, i < n → (us.getD i ByteArray.empty).size ≤ 1048576) w))
    (h10 : n ≤ 131072 → (∀ i, i < n → (us.getD i ByteArray.empty).size ≤ 1048576) → Calls Tryz.prog 10 #[.slice a0 n c0] w (SomeInt (fun _ => True) w))
    (h13 : n ≤ 1048576 → Calls Tryz.prog 13 #[.slice a0 n c0] w fun e w' => ∃ a' c', e = .returned (.slice a' n c') ∧ Hid (Slc Value.string ByteArray.empty w' a' us) ∧ Hid (Below w.heap.size w w')) :
    Calls Tryz.prog 4 #[.slice a0 n c0, .int .i32 z] w fun e w' => e = .returned (.bool true) ∧ Below w.heap.size w w' := by
  have HL := Lib.hid hl
  have HU := Lib.hid hu
  have H9 := Lib.hid h9
  have H10 := Lib.hid h10
  have H13 := Lib.hid h13
  clear hl hu h9 h10 h13
  go_enter Tryz.func4, Tryz.ntmps4
  go_wp2_with fail
  refine H9.out.mono ?_
  rintro e w' ⟨b, hb, rfl, rfl⟩
  have HB := Lib.hid hb
  clear hb
  cases b
  · go_wp2_with fail
    go_ret
    exact ⟨rfl, Below.refl _ _⟩
  obtain ⟨hn20, hs20⟩ := HB.out rfl
  have HS := Lib.hid hs20
  clear hs20 HB
  by_cases hbig : 131072 < n
  · have hbig' : (131072 : Int) < (n : Int) := by omega
    go_wp2_with fail
    go_ret
    exact ⟨rfl, Below.refl _ _⟩
  have hbig' : ¬ (131072 : Int) < (n : Int) := by omega
  have hn : n ≤ 131072 := by omega
  go_wp2_with fail
  refine (H10.out hn HS.out).mono ?_
  rintro e w' ⟨y, _, rfl, rfl⟩
  by_cases hy : (1048576 : Int) < y
  · go_wp2_with fail
    go_ret
    exact ⟨rfl, Below.refl _ _⟩
  by_cases hz3 : (65536 : Int) < z
  · go_wp2_with fail
    go_ret
    exact ⟨rfl, Below.refl _ _⟩
  have hz4 : z ≤ 65536 := by omega
  go_wp2_with fail
  refine (levels_any (z + 1) w (by omega) (by omega)).mono ?_
  rintro e w' ⟨lv, hlv, rfl, rfl⟩
  have hl0 : 0 ≤ lv := by omega
  have hl1 : lv ≤ 65537 := by omega
  clear hlv
  obtain ⟨p, hp⟩ : ∃ p, ((n : Int) + 1) * (lv + 1) = p := ⟨_, rfl⟩
  have hp0 : 0 ≤ p := by rw [← hp]; exact Int.mul_nonneg (by omega) (by omega)
  have hp1 : p ≤ 131073 * 65538 := by rw [← hp]; exact Int.mul_le_mul (by omega) (by omega) (by omega) (by omega)
  by_cases hp2 : (262144 : Int) < p
  · go_wp2_with fail
    go_ret
    exact ⟨rfl, Below.refl _ _⟩
  go_wp2_with fail
  clear hp hp0 hp1 hp2
  go_loop [5] (fun i => ∃ k : Nat, k ≤ n ∧ i = .int .i64 k ∧ Hid (∀ i, i < k → NoNl (us.getD i ByteArray.empty))) (fun i => n - (intOf i).toNat)
  case atStart => exact ⟨0, Nat.zero_le _, rfl, fun i hi => absurd hi (Nat.not_lt_zero _)⟩
  case round =>
    obtain ⟨k, hk, rfl, hno⟩ := hrel
    by_cases hlt : k < n
    · obtain ⟨b, o, e, hc⟩ := HU.out k (by rw [HL.out]; exact hlt)
      subst e
      have HK := Lib.hid (HS.out k hlt)
      obtain ⟨u, eu⟩ : ∃ u, u = us.getD k ByteArray.empty := ⟨_, rfl⟩
      rw [← eu] at hc HK
      have HE := Lib.hid eu
      clear eu
      have hk1 : (k : Int) < (n : Int) := by omega
      go_wp2_with fail
      refine (newl_any u w HK.out).mono ?_
      rintro e w' ⟨x, hx, rfl, rfl⟩
      have HX := Lib.hid hx
      clear hx
      by_cases h0 : x = 0
      · have e1 : (x != 0) = false := by simpa using h0
        go_wp2_with fail
        go_round
        case rel => exact ⟨k + 1, by omega, by go_num, fun i hi => by
          rcases Nat.lt_or_ge i k with h | h
          · exact hno.out i h
          · obtain rfl : i = k := by omega
            rw [← HE.out]
            exact HX.out h0⟩
        case measure => simp [intOf]; omega
      · have e1 : (x != 0) = true := by simpa using h0
        go_wp2_with fail
        go_ret
        exact ⟨rfl, Below.refl _ _⟩
    · obtain rfl : k = n := by omega
      have hk1 : ¬ (k : Int) < (k : Int) := by omega
      have HN : Hid (∀ t ∈ us, ∀ c ∈ t.data.toList, c ≠ 10) := no_ten HL.out hno.out
      clear hno
      go_wp2_with fail
      refine (H13.out (by omega)).mono ?_
      rintro e w1 ⟨a1, c1, rfl, HU1, HB1⟩
      go_wp2_with fail
      refine (print_rules false a1 k c1 us z w1 hn HL.out HS.out hz hz4 HU1.out).mono ?_
      rintro e w2 ⟨sa, m, sm, rfl, hm, HP2, HB2⟩
      have HU2 := Lib.hid (HU1.out.below HB2.out)
      go_wp2_with fail
      refine (print_rules true a1 k c1 us z w2 hn HL.out HS.out hz hz4 HU2.out).mono ?_
      rintro e w3 ⟨sb, m2, sm2, rfl, hm2, HP3, HB3⟩
      have HQ := Lib.hid (HP2.out.below HB3.out)
      have hlen := blkR_len false (z + 1).toNat z.toNat us k HL.out hn (by omega) (by omega) HS.out
      rw [← hm.out] at hlen
      go_wp2_with fail
      refine (strip_any sa m sm _ w3 hm.out.symm (by omega) HQ.out).mono ?_
      rintro e w4 ⟨sc, m3, c3, rfl, hm3, HP4, HB4⟩
      have hst := st_blk (z + 1).toNat z.toNat us HN.out
      rw [hst] at hm3 HP4
      obtain rfl : m2 = m3 := by rw [hm3]; exact hm2.out
      have HP5 := Lib.hid (HP3.out.below HB4.out)
      have hlen2 := blkR_len true (z + 1).toNat z.toNat us k HL.out hn (by omega) (by omega) HS.out
      rw [← hm3] at hlen2
      have HM3 := Lib.hid hm3
      clear hst hm3
      go_wp2_with fail
      refine (equal_any sc sb m2 c3 sm2 _ w4 HM3.out.symm (by omega) HP4.out HP5.out).mono ?_
      rintro e w5 ⟨rfl, d, rfl⟩
      go_wp2_with fail
      go_ret
      refine ⟨rfl, below_drewN' ?_ d⟩
      have h1 := HB1.out
      have h2 := h1.trans (HB2.out.mono h1.size)
      have h3 := h2.trans (HB3.out.mono h2.size)
      exact h3.trans (HB4.out.mono h3.size)

/-- The walk of the law: it answers true. -/
theorem fnRuleBlockMinifiedIsPrettyWithoutLayout_walk (a0 : Option Addr) (cap0 : Nat) (us : List ByteArray) (z : Int) (W : World) (h0 : Slc Value.string ByteArray.empty W a0 us) (l0 : us.length ≤ 9223372036854775807) (hw : (Lit.int .i32 z).wf = true) :
    Calls Tryz.prog 4 #[.slice a0 us.length cap0, .int .i32 z] W fun e w' => e = .returned (.bool true) ∧ Below W.heap.size W w' := by
  simp only [Lit.wf, Bool.and_eq_true, decide_eq_true_eq] at hw
  have hz : -2147483648 ≤ z := hw.1
  have hz2 : z ≤ 2147483647 := hw.2
  obtain ⟨n, en⟩ : ∃ n, n = us.length := ⟨_, rfl⟩
  have h13 := fun (h : n ≤ 1048576) => clone2_strings a0 cap0 us W h0 (by omega)
  rw [← en] at h13 ⊢
  exact law4 a0 n cap0 z us W en.symm hz hz2 h0 (zz9_any a0 n cap0 z us W (by omega) en.symm h0) (fun hn hs => namesb_any a0 n cap0 us W hn en.symm hs h0)
    (fun h => (h13 h).mono fun _ _ q => by
      obtain ⟨a', c', e, h1, h2⟩ := q
      exact ⟨a', c', by rw [en]; exact e, h1, h2⟩)
end Go.Proofs.YtiplakadjkimmabGreatFmt
