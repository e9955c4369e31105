/-
  The walk of the law FnSumFlattenNestedPrefix.
-/
import Derived.Test.YtnoghiefpdbpbaaGreatFmtR3
import Derived.Test.YtnoghiefpdbpbaaGreatFmtI
namespace Go.Proofs.YtnoghiefpdbpbaaGreatFmt
open Go.RowKit Go.Deep Go.PlainAid

set_option maxHeartbeats 4000000 in
set_option maxRecDepth 100000 in
theorem law5 (ρ : Nat → Nat → Bool) (a0 a1 a2 : Option Addr) (cap0 cap1 cap2 n0 n1 n2 : Nat) (us : List ByteArray) (xs : List Nat) (fs : List Bool) (kz : Int) (W : World) (hul : us.length = n0) (hxl : xs.length = n1) (hfl : fs.length = n2)
    (h19 : Calls Tryz.prog 19 #[.slice a0 n0 cap0, .slice a1 n1 cap1, .slice a2 n2 cap2, .int .i64 kz] W (SomeBool (fun b => b = true → n0 ≤ 1048576 ∧ n1 ≤ 1048576 ∧ n2 ≤ 1048576 ∧ ∀ i, i < n0 → (us.getD i ByteArray.empty).size ≤ 1048576) W))
    (h8 : n0 ≤ 1048576 → n1 ≤ 1048576 → n2 ≤ 1048576 → (∀ i, i < n0 → (us.getD i ByteArray.empty).size ≤ 1048576) → Calls Tryz.prog 8 #[.slice a0 n0 cap0, .slice a1 n1 cap1, .slice a2 n2 cap2] W (SomeInt (fun _ => True) W))
    (h10 : n0 ≤ 1048576 → Calls Tryz.prog 10 #[.slice a0 n0 cap0] W (Cln Value.string ByteArray.empty us n0 W))
    (h11 : n1 ≤ 1048576 → ∀ V, Below W.heap.size W V → Calls Tryz.prog 11 #[.slice a1 n1 cap1] V (Cln fl 0 xs n1 V))
    (h12 : n2 ≤ 1048576 → ∀ V, Below W.heap.size W V → Calls Tryz.prog 12 #[.slice a2 n2 cap2] V (Cln Value.bool false fs n2 V))
    (h13 : n0 ≤ 1048576 → n1 = n0 → n2 = n0 → (∀ i, i < n0 → (us.getD i ByteArray.empty).size ≤ 1048576) → ∀ V b0 b1 b2 d0 d1 d2, Below W.heap.size W V → Slc Value.string ByteArray.empty V b0 us → Slc fl 0 V b1 xs → Slc Value.bool false V b2 fs →
      ∀ k : Int, k = -1 ∨ (0 ≤ k ∧ k ≤ n0) → Calls Tryz.prog 13 #[.slice b0 n0 d0, .slice b1 n0 d1, .slice b2 n0 d2, .int .i64 k] V (SumOut2 ρ us (zl xs fs) n0 V)) :
    Calls Tryz.prog 5 #[.slice a0 n0 cap0, .slice a1 n1 cap1, .slice a2 n2 cap2, .int .i64 kz] W fun e w' => e = .returned (.bool true) ∧ Below W.heap.size W w' := by
  have H19 := Lib.hid h19
  have H8 := Lib.hid h8
  have H10 := Lib.hid h10
  have H11 := Lib.hid h11
  have H12 := Lib.hid h12
  have H13 := Lib.hid h13
  have HL := Lib.hid (And.intro hul (And.intro hxl hfl))
  clear h19 h8 h10 h11 h12 h13 hul hxl hfl
  go_enter Tryz.func5, Tryz.ntmps5
  go_wp2_with fail
  refine H19.out.mono ?_
  rintro e w' ⟨b, hb, rfl, rfl⟩
  cases b
  · go_wp2_with fail
    go_ret
    exact ⟨rfl, Below.refl _ _⟩
  obtain ⟨l0, l1, l2, ls⟩ := hb rfl
  have HS := Lib.hid ls
  clear hb ls
  go_wp2_with fail
  refine (H8.out l0 l1 l2 HS.out).mono ?_
  rintro e w' ⟨b8, _, rfl, rfl⟩
  by_cases hbig : (1048576 : Int) < b8
  · go_wp2_with fail
    go_ret
    exact ⟨rfl, Below.refl _ _⟩
  by_cases h40 : (4096 : Int) < (n0 : Int)
  · go_wp2_with fail
    go_ret
    exact ⟨rfl, Below.refl _ _⟩
  by_cases h41 : (4096 : Int) < (n1 : Int)
  · go_wp2_with fail
    go_ret
    exact ⟨rfl, Below.refl _ _⟩
  by_cases h42 : (4096 : Int) < (n2 : Int)
  · go_wp2_with fail
    go_ret
    exact ⟨rfl, Below.refl _ _⟩
  by_cases hne1 : n1 = n0
  rotate_left
  · have hne' : ((n0 : Int) != (n1 : Int)) = true := by simp; omega
    go_wp2_with fail
    go_ret
    exact ⟨rfl, Below.refl _ _⟩
  subst hne1
  by_cases hne2 : n2 = n1
  rotate_left
  · have hne' : ((n2 : Int) != (n1 : Int)) = true := by simp; omega
    go_wp2_with fail
    go_ret
    exact ⟨rfl, Below.refl _ _⟩
  subst hne2
  by_cases hk0 : kz < 0
  · go_wp2_with fail
    go_ret
    exact ⟨rfl, Below.refl _ _⟩
  by_cases hk1 : (n2 : Int) < kz
  · go_wp2_with fail
    go_ret
    exact ⟨rfl, Below.refl _ _⟩
  go_wp2_with fail
  refine (H10.out l0).mono ?_
  rintro e w1 ⟨b0, d0, rfl, hX1, hB1⟩
  have HU1 := Lib.hid hX1
  have HB1 := Lib.hid hB1
  clear hX1 hB1
  go_wp2_with fail
  refine (H11.out l1 _ HB1.out).mono ?_
  rintro e w2 ⟨b1, d1, rfl, hX2, hB2⟩
  have HX2 := Lib.hid hX2
  have HU2 := Lib.hid (HU1.out.below hB2)
  have HB2 := Lib.hid (HB1.out.trans (hB2.mono HB1.out.size))
  clear hX2 hB2 HU1 HB1
  go_wp2_with fail
  refine (H12.out l2 _ HB2.out).mono ?_
  rintro e w3 ⟨b2, d2, rfl, hF3, hB3⟩
  have HF3 := Lib.hid hF3
  have HX3 := Lib.hid (HX2.out.below hB3)
  have HU3 := Lib.hid (HU2.out.below hB3)
  have HB3 := Lib.hid (HB2.out.trans (hB3.mono HB2.out.size))
  clear hF3 hB3 HU2 HX2 HB2
  have h13 := H13.out l0 trivial trivial HS.out
  have hA := Lib.hid (h13 w3 b0 b1 b2 d0 d1 d2 HB3.out HU3.out HX3.out HF3.out kz (.inr ⟨by omega, by omega⟩))
  have hBf := Lib.hid (fun V (hV : Below w3.heap.size w3 V) => h13 V b0 b1 b2 d0 d1 d2 (HB3.out.trans (hV.mono HB3.out.size)) (HU3.out.below hV) (HX3.out.below hV) (HF3.out.below hV) (-1) (.inl rfl))
  clear h13
  go_wp2_with fail
  refine hA.out.mono ?_
  intro e w4 hsum
  unfold SumOut2 at hsum
  obtain ⟨g, eg⟩ : ∃ g, g = (grp ρ (List.range n2)).length := ⟨_, rfl⟩
  have HG : g ≤ n2 := by
    have := grp_len ρ n2 (List.range n2) (by rw [List.length_range]; exact Nat.le_refl _)
    rw [List.length_range] at this
    omega
  rw [← eg] at hsum
  obtain ⟨hB4, U4, F4, vs, rfl, hc4⟩ := hsum
  obtain ⟨kd, ekd⟩ : ∃ kd : Int, kd = if g = 1 then 1 else 2 := ⟨_, rfl⟩
  rw [← ekd]
  have HC4 := Lib.hid hc4
  have HB4 := Lib.hid (HB3.out.trans (hB4.mono HB3.out.size))
  have hB := hBf.out w4 hB4
  have HBk := Lib.hid hB
  have EG := Lib.hid eg
  have EK := Lib.hid ekd
  clear hc4 hB4 hB hBf hA eg ekd
  go_wp2_with fail
  refine HBk.out.mono ?_
  intro e w5 hsum
  unfold SumOut2 at hsum
  rw [← EG.out, ← EK.out] at hsum
  obtain ⟨hB5, U5, F5, vt, rfl, hc5⟩ := hsum
  have HC5 := Lib.hid (fun q hq => And.intro (hc5 q hq) (And.intro (cell_later hB5 (HC4.out q hq).1) (And.intro (cell_later hB5 (HC4.out q hq).2.1) (HC4.out q hq).2.2)))
  have HBF := Lib.hid (HB4.out.trans (hB5.mono HB4.out.size))
  clear hc5 hB5 HBk HC4 HB4
  go_wp2_with fail
  obtain ⟨Wa, eWa⟩ : ∃ Wa, Wa = w5 := ⟨_, rfl⟩
  subst eWa
  go_loopw [15] (fun i wr => ∃ q : Nat, q ≤ g ∧ i = .int .i64 q ∧ Hid (Below Wa.heap.size Wa wr)) (fun i _ => g - (intOf i).toNat)
  case atStart => exact ⟨0, Nat.zero_le _, rfl, Below.refl _ _⟩
  case round =>
    obtain ⟨q, hq, rfl, hb3⟩ := hrel
    by_cases hqm : q < g
    · obtain ⟨⟨t0, t1, t2⟩, o0, o1, o2⟩ := HC5.out q hqm
      have p0 := cell_later hb3.out o0
      have p1 := cell_later hb3.out o1
      have p2 := cell_later hb3.out t0
      have p3 := cell_later hb3.out t1
      have hsim := same_any (vs q) (vt q) (sums_sim o2 (vt q) t2)
      obtain ⟨u0, eu0⟩ : ∃ u0, u0 = us.getD (hd (grp ρ (List.range n2)) q) ByteArray.empty := ⟨_, rfl⟩
      obtain ⟨v0, ev0⟩ : ∃ v0, v0 = vs q := ⟨_, rfl⟩
      obtain ⟨g0, eg0⟩ : ∃ g0, g0 = vt q := ⟨_, rfl⟩
      rw [← eu0] at p0 p2
      rw [← ev0] at p1 hsim
      rw [← eg0] at p3 hsim
      have HSM := Lib.hid hsim
      have hqmi : (q : Int) < (g : Int) := by omega
      clear eu0 ev0 eg0 o0 o1 o2 t0 t1 t2 hsim
      go_wp2_with fail
      go_quiet (first | (go_at_call 15; exact Calls.quiet_of_same ((HSM.out _).mono fun _ _ h => ⟨h.1, h.2.symm⟩)))
      go_wp2_with fail
      go_roundw
      case rel => exact ⟨q + 1, by omega, by go_num, below_drewN hb3.out _⟩
      case measure => simp [intOf]; omega
    · obtain rfl : q = g := by omega
      go_wp2_with fail
      go_ret
      exact ⟨rfl, HBF.out.trans (hb3.out.mono HBF.out.size)⟩
end Go.Proofs.YtnoghiefpdbpbaaGreatFmt
