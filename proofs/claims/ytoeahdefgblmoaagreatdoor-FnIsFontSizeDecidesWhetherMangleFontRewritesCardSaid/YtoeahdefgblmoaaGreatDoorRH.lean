/-
  floatBits: the walk.
-/
import Derived.Test.YtoeahdefgblmoaaGreatDoorRG0
namespace Go.Proofs.YtoeahdefgblmoaaGreatDoor
open Go.RowKit Go.Deep Go.PlainAid Go.Maps Go.Sort

/-- How far the decimal is from the end of the first loop; of the second. -/
def iAt (w : World) (b i : Nat) : Int := match w.cell? ⟨b, i, none⟩ with | some (.int _ x) => x | _ => 0
def rankA (w : World) (b : Nat) : Nat := (10 * iAt w b 801 + iAt w b 0).toNat
def rankB (w : World) (b : Nat) : Nat := (10 * (20 - iAt w b 801) + (57 - iAt w b 0)).toNat
theorem DecAt.iAt {w : World} {b nd : Nat} {G : Nat → Int} {dp : Int} {ng tr : Bool} (h : DecAt w b G nd dp ng tr) : iAt w b 801 = dp ∧ iAt w b 0 = G 0 := by
  unfold YtoeahdefgblmoaaGreatDoor.iAt
  rw [h.cdp, h.dig (i := 0) (by omega)]
  exact ⟨rfl, rfl⟩

/-- A number of the table of shifts. -/
def isN27 (v : Value) : Prop := ∃ n : Nat, 1 ≤ n ∧ n ≤ 27 ∧ v = .int .i64 n

/-- In the first loop: the decimal, and how the exponent is bounded. -/
def LA (b : Nat) (ng : Bool) (w0 : World) (x : Int) (w : World) : Prop := ∃ (G : Nat → Int) (nd : Nat) (dp : Int) (tr : Bool), 1 ≤ nd ∧ Good G nd ∧ DecAt w b G nd dp ng tr ∧ -330 ≤ dp ∧ dp ≤ 310 ∧ Below b w0 w ∧ 0 ≤ x ∧ x + 27 * (rankA w b : Int) ≤ 86400
def LB (b : Nat) (ng : Bool) (w0 : World) (x : Int) (w : World) : Prop := ∃ (G : Nat → Int) (nd : Nat) (dp : Int) (tr : Bool), 1 ≤ nd ∧ Good G nd ∧ DecAt w b G nd dp ng tr ∧ -330 ≤ dp ∧ dp ≤ 19 ∧ Below b w0 w ∧ x ≤ 86400 ∧ -97200 ≤ x - 27 * (rankB w b : Int)

theorem LA.turn {b n : Nat} {ng tr : Bool} {w0 wr W w' : World} {x dp : Int} {G : Nat → Int} {nd : Nat} {e : Ending} (hd : DecAt wr b G nd dp ng tr) (hx : 0 ≤ x) (hr : x + 27 * (rankA wr b : Int) ≤ 86400) (hpos : 0 < dp) (hdp : dp ≤ 310)
    (hg : 49 ≤ G 0 ∧ G 0 ≤ 57) (hn : n ≤ 27) (hW : Below b w0 W) (h : RightPost b G dp ng W e w') : e = .returned (.tuple #[]) ∧ LA b ng w0 (x + n) w' ∧ rankA w' b < rankA wr b := by
  obtain ⟨he, G', nd', dp', tr', k1, k2, k3, k4, k5, k6, k7⟩ := h
  obtain ⟨a1, a2⟩ := hd.iAt
  obtain ⟨b1, b2⟩ := k3.iAt
  have t1 := k2.top k1
  have t2 := k2.hi 0 k1
  have hlt : rankA w' b < rankA wr b := by
    unfold rankA
    rw [a1, a2, b1, b2]
    by_cases hq : dp' = dp
    · have := k7 hq
      omega
    · omega
  exact ⟨he, ⟨G', nd', dp', tr', k1, k2, k3, by omega, by omega, hW.trans k4, by omega, by omega⟩, hlt⟩
theorem LB.turn {b n : Nat} {ng tr : Bool} {w0 wr W w' : World} {x dp : Int} {G : Nat → Int} {nd : Nat} {e : Ending} (hd : DecAt wr b G nd dp ng tr) (hx : x ≤ 86400) (hr : -97200 ≤ x - 27 * (rankB wr b : Int)) (hneg : dp ≤ 0) (hdp : -330 ≤ dp)
    (hg : 49 ≤ G 0 ∧ G 0 ≤ 57) (hn : n ≤ 27) (hW : Below b w0 W) (h : LeftPost b G dp ng W e w') : e = .returned (.tuple #[]) ∧ LB b ng w0 (x - n) w' ∧ rankB w' b < rankB wr b := by
  obtain ⟨he, G', nd', δ, tr', k1, k2, k3, k4, k5, k6⟩ := h
  obtain ⟨a1, a2⟩ := hd.iAt
  obtain ⟨b1, b2⟩ := k3.iAt
  have t1 := k2.top k1
  have t2 := k2.hi 0 k1
  have hlt : rankB w' b < rankB wr b := by
    unfold rankB
    rw [a1, a2, b1, b2]
    by_cases hq : δ = 0
    · have := k6 hq
      omega
    · omega
  exact ⟨he, ⟨G', nd', dp + δ, tr', k1, k2, k3, by omega, by omega, hW.trans k4, by omega, by omega⟩, hlt⟩

def LC (b : Nat) (ng : Bool) (w0 : World) (x : Int) (w : World) : Prop := Some1 b (-10000000) 10000000 ng w0 w ∧ -1000000 ≤ x ∧ x ≤ 1000000

def FJ2 (b : Nat) (w0 : World) (l : Nat) (a : Act) (w : World) : Prop := (l = 0 ∨ l = 1) ∧ FJ b w0 a w

set_option maxHeartbeats 4000000 in
set_option maxRecDepth 100000 in
theorem bits_any (b : Nat) (G : Nat → Int) (nd : Nat) (dp : Int) (ng tr : Bool) (wB w : World) (hT : Flt wB) (hbB : wB.heap.size ≤ b) (h0 : Below wB.heap.size wB w) (hg : Good G nd) (hd : DecAt w b G nd dp ng tr) :
    Calls Tryz.prog 72 #[.pointer (some ⟨b, 0, none⟩), .pointer (some ⟨11, 0, none⟩)] w (BitsPost b w) := by
  have HF : Hid (∀ W, Below b w W → Flt W) := Lib.hid fun W h => hT.below (h0.trans (h.mono hbB))
  have HG := Lib.hid hg
  have HD := Lib.hid hd
  have c0 := hd.cnd
  have c2 := hd.cdp
  have hF := HF.out w (Below.refl _ _)
  have i2 := hF.i2
  clear hT h0 hd hg hF hbB
  go_enter Tryz.func72, Tryz.ntmps72
  go_wp2_with fail
  refine wp_scope_many (FJ2 b w) id ?_ fun l a w' h => ?_
  rotate_left
  · rcases h with ⟨rfl | rfl, h⟩
    · exact ⟨_, rfl, tail_wp rfl _ b w a w' h⟩
    · exact ⟨_, rfl, tail1_wp rfl _ b w a w' h⟩
  by_cases hn0 : nd = 0
  · subst hn0
    go_wp2_with fail
    go_step3
    exact ⟨.inl rfl, ⟨rfl, rfl, rfl, rfl, ⟨_, rfl⟩, ⟨_, rfl⟩, ⟨_, rfl⟩, ⟨_, _, _, _, _, HD.out⟩, HF.out _ (Below.refl _ _), Below.refl _ _⟩⟩
  · have hn1 : ((nd : Int) == 0) = false := by rw [beq_eq_false_iff_ne]; omega
    by_cases hA : 310 < dp
    · go_wp2_with fail
      go_step3
      exact ⟨.inr rfl, ⟨rfl, rfl, rfl, rfl, ⟨_, rfl⟩, ⟨_, rfl⟩, ⟨_, rfl⟩, ⟨_, _, _, _, _, HD.out⟩, HF.out _ (Below.refl _ _), Below.refl _ _⟩⟩
    · by_cases hB : dp < -330
      · go_wp2_with fail
        go_step3
        exact ⟨.inl rfl, ⟨rfl, rfl, rfl, rfl, ⟨_, rfl⟩, ⟨_, rfl⟩, ⟨_, rfl⟩, ⟨_, _, _, _, _, HD.out⟩, HF.out _ (Below.refl _ _), Below.refl _ _⟩⟩
      · have hL : LA b ng w 0 w := by
          have hG := HG.out
          have h0 := hG.hi 0 (by omega)
          obtain ⟨e1, e2⟩ := HD.out.iAt
          refine ⟨G, nd, dp, tr, by omega, HG.out, HD.out, by omega, by omega, Below.refl _ _, Int.le_refl _, ?_⟩
          unfold rankA
          rw [e1, e2]
          omega
        have HL := Lib.hid hL
        clear hL
        go_wp2_with fail
        go_loopw [6] (fun s6 wr => ∃ x : Int, s6 = .int .i64 x ∧ Hid (LA b ng w x wr)) (fun _ wr => rankA wr b)
        case atStart => exact ⟨0, rfl, HL⟩
        case round =>
          obtain ⟨x, rfl, hS⟩ := hrel
          obtain ⟨G1, nd1, dp1, tr1, g1, g2, g3, g4, g5, g6, g7, g8⟩ := hS.out
          have d2 := g3.cdp
          have hxb : x ≤ 86400 := by omega
          by_cases hpos : 0 < dp1
          · obtain ⟨d, rfl⟩ : ∃ d : Nat, dp1 = (d : Int) := ⟨dp1.toNat, by omega⟩
            obtain ⟨R, o, cap, k1, k2⟩ := (HF.out wr g6).pow
            have hb1 := g2.top g1
            have hb2 := g2.hi 0 g1
            have HX := Lib.hid (And.intro hb1 hb2)
            by_cases h9 : 9 ≤ d
            · have h9' : (9 : Int) ≤ (d : Int) := by omega
              have HC := Lib.hid (shift_right b G1 nd1 d ng tr1 27 wr.drew (by omega) (by omega) g1 g2 (by omega) (by omega) g3.drew)
              have HB := Lib.hid (And.intro g3 (And.intro g6.drew g8))
              clear g1 g2 g3 g4 g6 g8 hb1 hb2 k2
              go_wp2_with fail
              go_region
              go_wp2_with fail
              refine Calls.mono (show Calls Tryz.prog 92 #[.pointer (some ⟨b, 0, none⟩), .int .i64 (-27)] wr.drew _ from HC.out) ?_
              intro e w' h
              obtain ⟨g3, g6, g8⟩ := HB.out
              obtain ⟨rfl, hLA, hlt⟩ := LA.turn (n := 27) g3 g7 g8 (by omega) g5 HX.out (by omega) g6 h
              have HLA := Lib.hid (And.intro hLA hlt)
              clear hLA hlt h g3 g6 g8
              go_wp2_with fail
              exact ⟨⟨x + 27, by go_num, Lib.hid HLA.out.1⟩, HLA.out.2⟩
            · have h9' : (d : Int) < 9 := by omega
              obtain ⟨n, n1, n2, n3⟩ := k2 d (by omega)
              have HC := Lib.hid (shift_right b G1 nd1 d ng tr1 n wr.drew.drew (by omega) (by omega) g1 g2 (by omega) (by omega) g3.drew.drew)
              have HB := Lib.hid (And.intro g3 (And.intro g6.drew.drew g8))
              clear g1 g2 g3 g4 g6 g8 hb1 hb2 k2
              go_wp2_with fail
              go_region
              go_wp2_with fail
              go_region
              go_wp2_with fail
              refine HC.out.mono ?_
              intro e w' h
              obtain ⟨g3, g6, g8⟩ := HB.out
              obtain ⟨rfl, hLA, hlt⟩ := LA.turn (n := n) g3 g7 g8 (by omega) g5 HX.out (by omega) g6 h
              have HLA := Lib.hid (And.intro hLA hlt)
              clear hLA hlt h g3 g6 g8
              go_wp2_with fail
              exact ⟨⟨x + n, by go_num, Lib.hid HLA.out.1⟩, HLA.out.2⟩
          · have hLB : LB b ng w x wr := by
              have t1 := g2.top g1
              have t2 := g2.hi 0 g1
              obtain ⟨e1, e2⟩ := g3.iAt
              refine ⟨G1, nd1, dp1, tr1, g1, g2, g3, g4, by omega, g6, by omega, ?_⟩
              unfold rankB
              rw [e1, e2]
              omega
            have HLB := Lib.hid hLB
            clear hLB g1 g2 g3 g6 g8
            go_upto_block 2 with fail
            go_cut [6] (fun s6 wx => ∃ x : Int, s6 = .int .i64 x ∧ Hid (LB b ng w x wx))
            case first =>
              go_wp2_with fail
              go_loopw [6] (fun s6 wr => ∃ x : Int, s6 = .int .i64 x ∧ Hid (LB b ng w x wr)) (fun _ wr => rankB wr b)
              case atStart => exact ⟨x, rfl, HLB⟩
              case round =>
                obtain ⟨x, rfl, hS⟩ := hrel
                obtain ⟨G1, nd1, dp1, tr1, g1, g2, g3, g4, g5, g6, g7, g8⟩ := hS.out
                have d2 := g3.cdp
                have hxb : -97200 ≤ x := by omega
                have d3 := g3.dig (i := 0) (by omega)
                obtain ⟨R, o, cap, k1, k2⟩ := (HF.out wr g6).pow
                have hch := (HF.out wr g6).cheats
                have hb1 := g2.top g1
                have hb2 := g2.hi 0 g1
                have HX := Lib.hid (And.intro hb1 hb2)
                by_cases hneg : dp1 < 0
                · skip
                  obtain ⟨d, hd⟩ : ∃ d : Nat, -dp1 = (d : Int) := ⟨(-dp1).toNat, by omega⟩
                  by_cases h9 : 9 ≤ d
                  · have h9' : (9 : Int) ≤ -dp1 := by omega
                    have HC := Lib.hid (shift_left b G1 nd1 dp1 ng tr1 27 wr.drew (by omega) (by omega) g1 g2 (by omega) (by omega) g3.drew hch)
                    have HB := Lib.hid (And.intro g3 (And.intro g6.drew g8))
                    have HD2 := Lib.hid hd
                    clear g1 g2 g3 g6 g8 hb1 hb2 k2 hd hch
                    go_wp2_with fail
                    go_region
                    go_wp2_with fail
                    refine Calls.mono (show Calls Tryz.prog 92 #[.pointer (some ⟨b, 0, none⟩), .int .i64 27] wr.drew _ from HC.out) ?_
                    intro e w' h
                    obtain ⟨g3, g6, g8⟩ := HB.out
                    obtain ⟨rfl, hLA, hlt⟩ := LB.turn (n := 27) g3 g7 g8 (by omega) g4 HX.out (by omega) g6 h
                    have HLA := Lib.hid (And.intro hLA hlt)
                    clear hLA hlt h g3 g6 g8
                    go_wp2_with fail
                    exact ⟨⟨x - 27, by go_num, Lib.hid HLA.out.1⟩, HLA.out.2⟩
                  · have h9' : -dp1 < 9 := by omega
                    obtain ⟨n, n1, n2, n3⟩ := k2 d (by omega)
                    have HC := Lib.hid (shift_left b G1 nd1 dp1 ng tr1 n wr.drew.drew (by omega) (by omega) g1 g2 (by omega) (by omega) g3.drew.drew hch)
                    have HB := Lib.hid (And.intro g3 (And.intro g6.drew.drew g8))
                    clear g1 g2 g3 g6 g8 hb1 hb2 k2 hch
                    go_wp2_with fail
                    go_region
                    go_wp2_with fail
                    go_region
                    go_wp2_with fail
                    refine HC.out.mono ?_
                    intro e w' h
                    obtain ⟨g3, g6, g8⟩ := HB.out
                    obtain ⟨rfl, hLA, hlt⟩ := LB.turn (n := n) g3 g7 g8 (by omega) g4 HX.out (by omega) g6 h
                    have HLA := Lib.hid (And.intro hLA hlt)
                    clear hLA hlt h g3 g6 g8
                    go_wp2_with fail
                    exact ⟨⟨x - n, by go_num, Lib.hid HLA.out.1⟩, HLA.out.2⟩
                · by_cases hz : dp1 = 0
                  · by_cases h5 : G1 0 < 53
                    · obtain ⟨n, n1, n2, n3⟩ := k2 0 (by omega)
                      rw [Nat.add_zero] at n3
                      have HC := Lib.hid (shift_left b G1 nd1 dp1 ng tr1 n wr.drew.drew (by omega) (by omega) g1 g2 (by omega) (by omega) g3.drew.drew hch)
                      have HB := Lib.hid (And.intro g3 (And.intro g6.drew.drew g8))
                      clear g1 g2 g3 g6 g8 hb1 hb2 k2 hch
                      go_wp2_with fail
                      go_region
                      go_wp2_with fail
                      go_region
                      go_wp2_with fail
                      refine HC.out.mono ?_
                      intro e w' h
                      obtain ⟨g3, g6, g8⟩ := HB.out
                      obtain ⟨rfl, hLA, hlt⟩ := LB.turn (n := n) g3 g7 g8 (by omega) g4 HX.out (by omega) g6 h
                      have HLA := Lib.hid (And.intro hLA hlt)
                      clear hLA hlt h g3 g6 g8
                      go_wp2_with fail
                      exact ⟨⟨x - n, by go_num, Lib.hid HLA.out.1⟩, HLA.out.2⟩
                    · skip
                      have HLB := Lib.hid hS.out
                      clear g1 g2 g3 g6 g8 hb1 hb2 k2 hch
                      go_wp2_with fail
                      go_meet
                      exact ⟨x, rfl, HLB⟩
                  · have hz' : (dp1 == 0) = false := beq_eq_false_iff_ne.2 hz
                    have HLB := Lib.hid hS.out
                    clear g1 g2 g3 g6 g8 hb1 hb2 k2 hch
                    go_wp2_with fail
                    go_meet
                    exact ⟨x, rfl, HLB⟩
            case rest =>
              obtain ⟨x, rfl, hS⟩ := hcut
              obtain ⟨G1, nd1, dp1, tr1, g1, g2, g3, g4, g5, g6, g7, g8⟩ := hS.out
              have hxb : -97200 ≤ x := by omega
              have j2 := (HF.out wc g6).i2
              go_upto_if 111 with fail
              go_cut [6] (fun s6 wx => ∃ y : Int, s6 = .int .i64 y ∧ Hid (LC b ng w y wx))
              case first =>
                by_cases hlow : x - 1 < -1022
                · obtain ⟨m, hm⟩ : ∃ m : Nat, -1022 - (x - 1) = (m : Int) := ⟨(-1022 - (x - 1)).toNat, by omega⟩
                  have HC := Lib.hid (shift_down b G1 nd1 dp1 ng tr1 m wc (by omega) (by omega) g1 g2 (by omega) (by omega) g3)
                  have HB := Lib.hid (And.intro g6 (And.intro g4 g5))
                  have hm2 : m ≤ 97000 := by omega
                  clear g1 g2 g3 g6 g8
                  go_wp2_with fail
                  refine HC.out.mono ?_
                  rintro e w' ⟨rfl, G', nd', dp', tr', k1, k2, k3, k4, k5, k6⟩
                  have HE : Hid (LC b ng w (x - 1 + m) w') := Lib.hid ⟨⟨G', nd', dp', tr', k1, k2, k3, by omega, by omega, HB.out.1.trans k6⟩, by omega, by omega⟩
                  clear k1 k2 k3 k4 k5 k6
                  go_wp2_with fail
                  go_meet
                  exact ⟨x - 1 + m, by go_num, HE⟩
                · have HE : Hid (LC b ng w (x - 1) wc) := Lib.hid ⟨⟨G1, nd1, dp1, tr1, g1, g2, g3, by omega, by omega, g6⟩, by omega, by omega⟩
                  clear g1 g2 g3 g6 g8
                  go_wp2_with fail
                  go_meet
                  exact ⟨x - 1, by go_num, HE⟩
              case rest =>
                clear g1 g2 g3 g4 g5 g6 g7 g8 j2 hxb hS
                obtain ⟨y, rfl, hS⟩ := hcut
                obtain ⟨⟨G2, nd2, dp2, tr2, g1, g2, g3, g4, g5, g6⟩, y1, y2⟩ := hS.out
                have j0 := (HF.out _ g6).i0
                have j1 := (HF.out _ g6).i1
                have j2 := (HF.out _ g6).i2
                by_cases hov : 2047 ≤ y + 1023
                · have HE := Lib.hid (And.intro g3.drew g6.drew)
                  clear g1 g2 g3 g6
                  go_wp2_with fail
                  go_region
                  go_wp2_with fail
                  go_step3
                  exact ⟨.inr rfl, ⟨rfl, rfl, rfl, rfl, ⟨_, rfl⟩, ⟨_, rfl⟩, ⟨_, rfl⟩, ⟨_, _, _, _, _, HE.out.1⟩, HF.out _ HE.out.2, HE.out.2⟩⟩
                · have HC := Lib.hid (shift_left b G2 nd2 dp2 ng tr2 53 (World.drew _) (by omega) (by omega) g1 g2 (by omega) (by omega) g3.drew (HF.out _ g6.drew).cheats)
                  have HB := Lib.hid (And.intro g6.drew (And.intro g4 g5))
                  clear g1 g2 g3 g6
                  go_wp2_with fail
                  go_region
                  go_wp2_with fail
                  refine Calls.mono (show Calls Tryz.prog 92 #[.pointer (some ⟨b, 0, none⟩), .int .i64 53] _ _ from HC.out) ?_
                  rintro e w' ⟨rfl, G', nd', δ, tr', k1, k2, k3, k4, _, _⟩
                  have hbel := HB.out.1.trans k4
                  have HE := Lib.hid (And.intro k3 hbel)
                  have HR := Lib.hid (rounded_any b G' nd' (dp2 + δ) ng tr' w' k2.le k3)
                  have m0 := (HF.out _ hbel).i0
                  have m1 := (HF.out _ hbel).i1
                  have m2 := (HF.out _ hbel).i2
                  clear k1 k2 k3 k4 hbel j0 j1 j2
                  go_wp2_with fail
                  refine HR.out.mono ?_
                  rintro e w'' ⟨v, rfl, ⟨m, rfl⟩, rfl⟩
                  by_cases hm : m = 9007199254740992
                  · subst hm
                    have HE2 := Lib.hid (And.intro HE.out.1.drew HE.out.2.drew)
                    by_cases hov2 : 2047 ≤ y + 1 + 1023
                    · go_wp2_with fail
                      go_region
                      go_wp2_with fail
                      go_step3
                      exact ⟨.inr rfl, ⟨rfl, rfl, rfl, rfl, ⟨_, rfl⟩, ⟨_, rfl⟩, ⟨_, rfl⟩, ⟨_, _, _, _, _, HE2.out.1⟩, HF.out _ HE2.out.2, HE2.out.2⟩⟩
                    · go_wp2_with fail
                      go_region
                      go_wp2_with fail
                      all_goals
                        go_step3
                        exact ⟨.inl rfl, ⟨rfl, rfl, rfl, rfl, ⟨_, rfl⟩, ⟨_, rfl⟩, ⟨_, rfl⟩, ⟨_, _, _, _, _, HE2.out.1⟩, HF.out _ HE2.out.2, HE2.out.2⟩⟩
                  · have hm' : (m == 9007199254740992) = false := beq_eq_false_iff_ne.2 hm
                    have HE2 := Lib.hid HE.out
                    go_wp2_with fail
                    all_goals
                      go_step3
                      exact ⟨.inl rfl, ⟨rfl, rfl, rfl, rfl, ⟨_, rfl⟩, ⟨_, rfl⟩, ⟨_, rfl⟩, ⟨_, _, _, _, _, HE2.out.1⟩, HF.out _ HE2.out.2, HE2.out.2⟩⟩
end Go.Proofs.YtoeahdefgblmoaaGreatDoor
