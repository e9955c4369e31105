/-
  atof64 and ParseFloat: whatever the text, they end and do not panic.
-/
import Derived.Test.YtoeahdefgblmoaaGreatDoorRH
import Derived.Test.YtoeahdefgblmoaaGreatDoorRJ
import Derived.Test.YtoeahdefgblmoaaGreatDoorRL
import Derived.Test.YtoeahdefgblmoaaGreatDoorRN
import Derived.Test.YtoeahdefgblmoaaGreatDoorRT0
import Derived.Test.YtoeahdefgblmoaaGreatDoorRU
namespace Go.Proofs.YtoeahdefgblmoaaGreatDoor
open Go.RowKit Go.Deep Go.PlainAid Go.Maps Go.Sort

/-- What is known of the tables of ParseFloat. -/
structure PF (w : World) : Prop where
  opt : w.cell? ⟨10, 0, none⟩ = some (.bool true)
  flt : Flt w
  ten : Tens w
  pow : PTab w
  b9 : ∃ c t, w.heap[9]? = some (.cells c t (0, 0))
  b11 : ∃ c t, w.heap[11]? = some (.cells c t (0, 0))
theorem blk_later {w w' : World} {b : Nat} (hb : Below w.heap.size w w') (h : ∃ c t, w.heap[b]? = some (.cells c t (0, 0))) : ∃ c t, w'.heap[b]? = some (.cells c t (0, 0)) := by
  obtain ⟨c, t, e⟩ := h
  exact ⟨c, t, (hb.block b (Array.getElem?_eq_some_iff.1 e).1).trans e⟩
theorem PF.below {w w' : World} (h : PF w) (hb : Below w.heap.size w w') : PF w' :=
  ⟨cell_later hb h.opt, h.flt.below hb, h.ten.below hb, h.pow.below hb, blk_later hb h.b9, blk_later hb h.b11⟩

def isFKE (v : Value) : Prop := ∃ x k u, v = .tuple #[.float .f64 x, .int .i64 k, u] ∧ isE u

set_option maxHeartbeats 4000000 in
set_option maxRecDepth 100000 in
theorem atofs_any (s : ByteArray) (w : World) (hs : s.size ≤ 1048576) (hT : PF w) : Calls Tryz.prog 54 #[.string s] w (GivesB isFKE w) := by
  have hfb := run_bits
  have HT := Lib.hid hT
  have hopt := hT.opt
  clear hT
  go_enter Tryz.func54, Tryz.ntmps54
  go_wp2_with fail
  refine (special_any s w hs).mono ?_
  rintro e w' ⟨v, rfl, ⟨x, n, b, rfl⟩, hw⟩
  have hw2 := hw.symm
  clear hw
  subst hw2
  cases b
  rotate_left
  · go_wp2_with fail
    go_ret3
    exact ⟨_, rfl, ⟨_, _, _, rfl, .inl rfl⟩, Below.refl _ _⟩
  go_wp2_with fail
  refine (read_any s w hs).mono ?_
  rintro e w' ⟨v, rfl, ⟨_, _, _, _, _, _, _, ⟨m, hm, rfl⟩, ⟨p, rfl⟩, ⟨ng, rfl⟩, ⟨tr, rfl⟩, ⟨hx, rfl⟩, ⟨k, hk, rfl⟩, ⟨ok, rfl⟩, rfl⟩, hw⟩
  have hw2 := hw.symm
  clear hw
  subst hw2
  have hk' : (k : Int) ≤ (s.size : Int) := by omega
  cases ok
  · go_wp2_with fail
    go_ret3
    exact ⟨_, rfl, ⟨_, _, _, rfl, by first | exact .inr (.inl rfl) | exact .inr (.inr rfl)⟩, Below.refl _ _⟩
  cases hx
  rotate_left
  · go_wp2_with fail
    refine (hex_any _ m p ng tr w hm HT.out.b9 HT.out.b11 HT.out.flt.i0 HT.out.flt.i1 HT.out.flt.i2).mono ?_
    rintro e w' ⟨⟨y, u, rfl, hu⟩, hb⟩
    go_wp2_with fail
    go_ret3
    exact ⟨_, rfl, ⟨_, _, _, rfl, hu⟩, hb⟩
  by_cases hm0 : m = 0
  · subst hm0
    go_wp2_with (first
      | (go_at_call 73; refine (b2u_any _ _).mono ?_; rintro e w' ⟨v, rfl, ⟨u, rfl⟩, hw⟩; have hw2 := hw.symm; clear hw; subst hw2)
      | fail)
    go_ret3
    exact ⟨_, rfl, ⟨_, _, _, rfl, .inl rfl⟩, Below.refl _ _⟩
  have hm0' : ((m : Int) == 0) = false := by rw [beq_eq_false_iff_ne]; omega
  by_cases hp1 : 310 < p
  · go_wp2_with (first
      | (go_at_call 73; refine (b2u_any _ _).mono ?_; rintro e w' ⟨v, rfl, ⟨u, rfl⟩, hw⟩; have hw2 := hw.symm; clear hw; subst hw2)
      | fail)
    go_ret3
    exact ⟨_, rfl, ⟨_, _, _, rfl, by first | exact .inr (.inl rfl) | exact .inr (.inr rfl)⟩, Below.refl _ _⟩
  by_cases hp2 : p < -345
  · go_wp2_with (first
      | (go_at_call 73; refine (b2u_any _ _).mono ?_; rintro e w' ⟨v, rfl, ⟨u, rfl⟩, hw⟩; have hw2 := hw.symm; clear hw; subst hw2)
      | fail)
    go_ret3
    exact ⟨_, rfl, ⟨_, _, _, rfl, .inl rfl⟩, Below.refl _ _⟩
  obtain ⟨i, hi, hi2⟩ : ∃ i : Nat, p = (i : Int) - 348 ∧ i < 696 := ⟨(p + 348).toNat, by omega, by omega⟩
  have HI := Lib.hid hi
  clear hi
  cases tr
  · go_wp2_with (first
      | (go_at_call 73; refine (b2u_any _ _).mono ?_; rintro e w' ⟨v, rfl, ⟨u, rfl⟩, hw⟩; have hw2 := hw.symm; clear hw; subst hw2)
      | fail)
    refine (exact_any m p ng w HT.out.flt.i0 HT.out.ten).mono ?_
    rintro e w1 ⟨v, rfl, ⟨y, b, rfl⟩, hb1⟩
    have hopt1 := cell_later hb1 hopt
    have HB1 := Lib.hid hb1
    have HT1 := Lib.hid (HT.out.below hb1)
    cases b
    · go_wp2_with fail
      refine (parse64_any m i p _ w1 hm HI.out hi2 HT1.out.pow).mono ?_
      rintro e w2 ⟨v, rfl, ⟨f, u2, rfl, hu2⟩, hb2⟩
      go_wp2_with fail
      go_ret3
      exact ⟨_, rfl, ⟨_, _, _, rfl, hu2⟩, HB1.out.trans (hb2.mono HB1.out.size)⟩
    · go_wp2_with fail
      go_ret3
      exact ⟨_, rfl, ⟨_, _, _, rfl, .inl rfl⟩, HB1.out⟩
  · go_wp2_with (first
      | (go_at_call 73; refine (b2u_any _ _).mono ?_; rintro e w' ⟨v, rfl, ⟨u, rfl⟩, hw⟩; have hw2 := hw.symm; clear hw; subst hw2)
      | fail)
    refine (parse64_any m i p _ w hm HI.out hi2 HT.out.pow).mono ?_
    rintro e w1 ⟨v, rfl, ⟨f, u1, rfl, hu1⟩, hb1⟩
    have hopt1 := cell_later hb1 hopt
    have HB1 := Lib.hid hb1
    have HT1 := Lib.hid (HT.out.below hb1)
    obtain ⟨m2, hm2, em2⟩ := isM_wrap ((m : Int) + 1)
    injection em2 with _ em2
    go_wp2_with fail
    refine (parse64_any m2 i p _ w1 hm2 HI.out hi2 HT1.out.pow).mono ?_
    rintro e w2 ⟨v, rfl, ⟨f2, u2, rfl, _⟩, hb2⟩
    have HB2 : Hid (Below w.heap.size w w2) := Lib.hid (HB1.out.trans (hb2.mono HB1.out.size))
    have HT2 := Lib.hid (HT1.out.below hb2)
    clear hb1 hb2 em2
    by_cases hq : (FloatKind.f64.format.order f f2 == some .eq) = true
    · go_wp2_with fail
      go_ret3
      exact ⟨_, rfl, ⟨_, _, _, rfl, hu1⟩, HB2.out⟩
    · have hq' : (FloatKind.f64.format.order f f2 == some .eq) = false := Bool.eq_false_iff.2 hq
      clear hq
      go_wp2_with fail
      refine (set_any w2.heap.size _ _ (by rw [ByteArray.size_extract]; omega) (dec_new w2)).mono ?_
      rintro e w3 ⟨⟨r, rfl⟩, G, nd, dp, ng2, tr2, hg, hd, hb3⟩
      have hb23 : Below w2.heap.size w2 w3 := ((Below.refl _ w2).alloc (Nat.le_refl _) _).trans hb3
      have HB3 : Hid (Below w.heap.size w w3) := Lib.hid (HB2.out.trans (hb23.mono HB2.out.size))
      have HBI := Lib.hid (bits_any w2.heap.size G nd dp ng2 tr2 w2 w3 HT2.out.flt (Nat.le_refl _) hb23 hg hd)
      have HS2 := Lib.hid (HB2.out.size)
      clear hg hd hb3 hb23
      cases r
      · go_wp2_with fail
        go_ret3
        exact ⟨_, rfl, ⟨_, _, _, rfl, by first | exact .inr (.inl rfl) | exact .inr (.inr rfl)⟩, HB3.out⟩
      · go_wp2_with fail
        refine HBI.out.mono ?_
        rintro e w4 ⟨⟨y, o, rfl⟩, hb4⟩
        have HB4 : Hid (Below w.heap.size w w4) := Lib.hid (HB3.out.trans (hb4.mono HS2.out))
        cases o
        · go_wp2_with fail
          go_ret3
          exact ⟨_, rfl, ⟨_, _, _, rfl, .inl rfl⟩, HB4.out⟩
        · go_wp2_with fail
          go_ret3
          exact ⟨_, rfl, ⟨_, _, _, rfl, by first | exact .inr (.inl rfl) | exact .inr (.inr rfl)⟩, HB4.out⟩

/-- internal/strconv.ParseFloat, strconv.ParseFloat. -/
def isFV (v : Value) : Prop := ∃ x u, v = .tuple #[.float .f64 x, u] ∧ isE u

set_option maxRecDepth 100000 in
theorem pf41_any (s : ByteArray) (w : World) (hs : s.size ≤ 1048576) (hT : PF w) : Calls Tryz.prog 41 #[.string s, .int .i64 64] w (GivesB isFKE w) := by
  have H := Lib.hid (atofs_any s w hs hT)
  clear hT
  go_enter Tryz.func41, Tryz.ntmps41
  go_wp2_with fail
  refine H.out.mono ?_
  rintro e w' ⟨v, rfl, ⟨x, k, u, rfl, hu⟩, hb⟩
  go_wp2_with fail
  go_ret3
  exact ⟨_, rfl, ⟨_, _, _, rfl, hu⟩, hb⟩

set_option maxRecDepth 100000 in
theorem pf31_any (s : ByteArray) (w : World) (hs : s.size ≤ 1048576) (hT : PF w) : Calls Tryz.prog 31 #[.string s, .int .i64 64] w (GivesB isFV w) := by
  have H := Lib.hid (pf41_any s w hs hT)
  clear hT
  go_enter Tryz.func31, Tryz.ntmps31
  go_wp2_with fail
  refine H.out.mono ?_
  rintro e w' ⟨v, rfl, ⟨x, k, u, rfl, hu⟩, hb⟩
  go_wp2_with fail
  all_goals
    go_ret2
    first
      | exact ⟨_, rfl, ⟨_, _, rfl, hu⟩, hb⟩
      | exact ⟨_, rfl, ⟨_, _, rfl, by first | exact .inr (.inl rfl) | exact .inr (.inr rfl)⟩, hb⟩
end Go.Proofs.YtoeahdefgblmoaaGreatDoor
