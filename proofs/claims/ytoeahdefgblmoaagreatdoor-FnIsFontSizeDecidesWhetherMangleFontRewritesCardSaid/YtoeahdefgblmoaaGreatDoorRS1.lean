/-
  decimal.set: statements walked over whatever frame (1).
-/
import Derived.Test.YtoeahdefgblmoaaGreatDoorRS0
namespace Go.Proofs.YtoeahdefgblmoaaGreatDoor
open Go.RowKit Go.Deep Go.PlainAid Go.Maps Go.Sort

set_option maxHeartbeats 4000000 in
set_option maxRecDepth 100000 in
theorem st_loop {d : Code} (hcode : Tryz.f71.body.bind (fq 1) = some (.block 1 d)) (Q : Exit → Act → World → Prop) (a : Act) (s : ByteArray) (b : Nat) (w0 w : World) (hs : s.size ≤ 1048576) (hG : GS s b w0 a w)
    (hN : ∀ a' w', GS s b w0 a' w' → Q .normal a' w') (hR : ∀ a' w', GS s b w0 a' w' → Q .ret a' w') : Code.wp Tryz.prog (.block 1 d) Q a w := by
  have key : ∀ {D : Code}, Tryz.f71.body.bind (fq 1) = some (.block 1 D) → Code.wp Tryz.prog (.block 1 D) Q a w → Code.wp Tryz.prog (.block 1 d) Q a w := fun e h => by
    rw [e] at hcode
    cases hcode
    exact h
  refine key rfl ?_
  clear key hcode
  obtain ⟨ha, hD⟩ := hG
  have HN := Lib.hid hN
  have HR := Lib.hid hR
  clear hN hR
  obtain ⟨z1, z2, e0, e1, ⟨_, e4, ⟨ok, rfl⟩⟩, ⟨_, e5, ⟨k, hk, rfl⟩⟩, ⟨_, e6, ⟨sd, rfl⟩⟩, ⟨_, e7, ⟨sg, rfl⟩⟩⟩ := ha
  obtain ⟨xs, rfl, hxs⟩ := act_sr a z1 z2
  have x0' := hxs 0 _ (by omega) e0
  have x1' := hxs 1 _ (by omega) e1
  have x4' := hxs 4 _ (by omega) e4
  have x5' := hxs 5 _ (by omega) e5
  have x6' := hxs 6 _ (by omega) e6
  have x7' := hxs 7 _ (by omega) e7
  clear hxs z1 z2 e0 e1 e4 e5 e6 e7
  simp only [sr, x0', x1', x4', x5', x6', x7']
  clear x0' x1' x4' x5' x6' x7'
  have hb := get_bt s
  go_wp2_with fail
  refine wp_loop (GS s b w0) (fun a _ => s.size - iN a 5) ⟨⟨rfl, rfl, rfl, rfl, ⟨_, rfl, ⟨_, rfl⟩⟩, ⟨_, rfl, by first | exact ⟨k, hk, rfl⟩ | exact ⟨k + 1, by omega, by go_num⟩ | exact ⟨k + 2, by omega, by go_num⟩⟩, ⟨_, rfl, ⟨_, rfl⟩⟩, ⟨_, rfl, ⟨_, rfl⟩⟩⟩, hD⟩ ?_
  clear hk hD
  rintro a w ⟨ha, hD⟩
  obtain ⟨z1, z2, e0, e1, ⟨_, e4, ⟨ok, rfl⟩⟩, ⟨_, e5, ⟨k, hk, rfl⟩⟩, ⟨_, e6, ⟨sd, rfl⟩⟩, ⟨_, e7, ⟨sg, rfl⟩⟩⟩ := ha
  obtain ⟨xs, rfl, hxs⟩ := act_sr a z1 z2
  have x0' := hxs 0 _ (by omega) e0
  have x1' := hxs 1 _ (by omega) e1
  have x4' := hxs 4 _ (by omega) e4
  have x5' := hxs 5 _ (by omega) e5
  have x6' := hxs 6 _ (by omega) e6
  have x7' := hxs 7 _ (by omega) e7
  clear hxs z1 z2 e0 e1 e4 e5 e6 e7
  simp only [sr, x0', x1', x4', x5', x6', x7']
  clear x0' x1' x4' x5' x6' x7'
  obtain ⟨G, nd, dp, ng, tr, hg, hd, hbel⟩ := hD
  have c0 := hd.cnd
  have c1 := hd.cdp
  have c2 := hd.ctr
  have f0 := hd.fz 800
  have f1 := hd.fz 801
  have f2 := hd.fz 803
  have hle := hg.le
  have HH := Lib.hid (And.intro hg (And.intro hd hbel))
  clear hg hd hbel
  by_cases hlt : k < s.size
  · have hlt' : (k : Int) < (s.size : Int) := by omega
    by_cases e95 : bt s k = 95
    · go_wp2_with fail
      exact ⟨⟨⟨rfl, rfl, rfl, rfl, ⟨_, rfl, ⟨_, rfl⟩⟩, ⟨_, rfl, by first | exact ⟨k, hk, rfl⟩ | exact ⟨k + 1, by omega, by go_num⟩ | exact ⟨k + 2, by omega, by go_num⟩⟩, ⟨_, rfl, ⟨_, rfl⟩⟩, ⟨_, rfl, ⟨_, rfl⟩⟩⟩, ⟨G, nd, dp, ng, tr, HH.out.1, HH.out.2.1, HH.out.2.2⟩⟩, by simp [iN, intOf]; omega⟩
    · have n95 : (bt s k == 95) = false := beq_eq_false_iff_ne.2 e95
      by_cases e46 : bt s k = 46
      · cases sd
        · go_wp2_with fail
          exact ⟨⟨⟨rfl, rfl, rfl, rfl, ⟨_, rfl, ⟨_, rfl⟩⟩, ⟨_, rfl, by first | exact ⟨k, hk, rfl⟩ | exact ⟨k + 1, by omega, by go_num⟩ | exact ⟨k + 2, by omega, by go_num⟩⟩, ⟨_, rfl, ⟨_, rfl⟩⟩, ⟨_, rfl, ⟨_, rfl⟩⟩⟩, ⟨G, nd, _, ng, tr, HH.out.1, HH.out.2.1.setDp _, dset HH.out.2.2 _ _⟩⟩, by simp [iN, intOf]; omega⟩
        · go_wp2_with fail
          exact HR.out _ _ ⟨⟨rfl, rfl, rfl, rfl, ⟨_, rfl, ⟨_, rfl⟩⟩, ⟨_, rfl, by first | exact ⟨k, hk, rfl⟩ | exact ⟨k + 1, by omega, by go_num⟩ | exact ⟨k + 2, by omega, by go_num⟩⟩, ⟨_, rfl, ⟨_, rfl⟩⟩, ⟨_, rfl, ⟨_, rfl⟩⟩⟩, ⟨G, nd, dp, ng, tr, HH.out.1, HH.out.2.1, HH.out.2.2⟩⟩
      · have n46 : (bt s k == 46) = false := beq_eq_false_iff_ne.2 e46
        by_cases hdig : 48 ≤ bt s k ∧ bt s k ≤ 57
        · obtain ⟨lo, hi⟩ := hdig
          by_cases e48 : bt s k = 48
          · by_cases hn0 : nd = 0
            · subst hn0
              go_wp2_with fail
              exact ⟨⟨⟨rfl, rfl, rfl, rfl, ⟨_, rfl, ⟨_, rfl⟩⟩, ⟨_, rfl, by first | exact ⟨k, hk, rfl⟩ | exact ⟨k + 1, by omega, by go_num⟩ | exact ⟨k + 2, by omega, by go_num⟩⟩, ⟨_, rfl, ⟨_, rfl⟩⟩, ⟨_, rfl, ⟨_, rfl⟩⟩⟩, ⟨G, 0, _, ng, tr, HH.out.1, HH.out.2.1.setDp _, dset HH.out.2.2 _ _⟩⟩, by simp [iN, intOf]; omega⟩
            · have hn0' : ((nd : Int) == 0) = false := by rw [beq_eq_false_iff_ne]; omega
              by_cases h8 : nd < 800
              · have h8' : (nd : Int) < 800 := by omega
                have c3 := HH.out.2.1.dig (i := nd) h8
                have f3 := HH.out.2.1.fz nd
                have HP := Lib.hid (DS.push (c := 48) HH.out.1 HH.out.2.1 HH.out.2.2 h8 (by omega) (by omega) (fun h => absurd h hn0))
                go_wp2_with fail
                go_region
                go_wp2_with fail
                exact ⟨⟨⟨rfl, rfl, rfl, rfl, ⟨_, rfl, ⟨_, rfl⟩⟩, ⟨_, rfl, by first | exact ⟨k, hk, rfl⟩ | exact ⟨k + 1, by omega, by go_num⟩ | exact ⟨k + 2, by omega, by go_num⟩⟩, ⟨_, rfl, ⟨_, rfl⟩⟩, ⟨_, rfl, ⟨_, rfl⟩⟩⟩, HP.out⟩, by simp [iN, intOf]; omega⟩
              · have h8' : (800 : Int) ≤ (nd : Int) := by omega
                go_wp2_with fail
                exact ⟨⟨⟨rfl, rfl, rfl, rfl, ⟨_, rfl, ⟨_, rfl⟩⟩, ⟨_, rfl, by first | exact ⟨k, hk, rfl⟩ | exact ⟨k + 1, by omega, by go_num⟩ | exact ⟨k + 2, by omega, by go_num⟩⟩, ⟨_, rfl, ⟨_, rfl⟩⟩, ⟨_, rfl, ⟨_, rfl⟩⟩⟩, ⟨G, nd, dp, ng, tr, HH.out.1, HH.out.2.1, HH.out.2.2⟩⟩, by simp [iN, intOf]; omega⟩
          · have n48 : (bt s k == 48) = false := beq_eq_false_iff_ne.2 e48
            by_cases h8 : nd < 800
            · have h8' : (nd : Int) < 800 := by omega
              have c3 := HH.out.2.1.dig (i := nd) h8
              have f3 := HH.out.2.1.fz nd
              have HP := Lib.hid (DS.push (c := bt s k) HH.out.1 HH.out.2.1 HH.out.2.2 h8 lo hi (fun _ => e48))
              go_wp2_with fail
              go_region
              go_wp2_with fail
              exact ⟨⟨⟨rfl, rfl, rfl, rfl, ⟨_, rfl, ⟨_, rfl⟩⟩, ⟨_, rfl, by first | exact ⟨k, hk, rfl⟩ | exact ⟨k + 1, by omega, by go_num⟩ | exact ⟨k + 2, by omega, by go_num⟩⟩, ⟨_, rfl, ⟨_, rfl⟩⟩, ⟨_, rfl, ⟨_, rfl⟩⟩⟩, HP.out⟩, by simp [iN, intOf]; omega⟩
            · have h8' : (800 : Int) ≤ (nd : Int) := by omega
              go_wp2_with fail
              exact ⟨⟨⟨rfl, rfl, rfl, rfl, ⟨_, rfl, ⟨_, rfl⟩⟩, ⟨_, rfl, by first | exact ⟨k, hk, rfl⟩ | exact ⟨k + 1, by omega, by go_num⟩ | exact ⟨k + 2, by omega, by go_num⟩⟩, ⟨_, rfl, ⟨_, rfl⟩⟩, ⟨_, rfl, ⟨_, rfl⟩⟩⟩, ⟨G, nd, dp, ng, true, HH.out.1, HH.out.2.1.setTr true, dset HH.out.2.2 _ _⟩⟩, by simp [iN, intOf]; omega⟩
        · go_wp2_with fail
          all_goals exact HN.out _ _ ⟨⟨rfl, rfl, rfl, rfl, ⟨_, rfl, ⟨_, rfl⟩⟩, ⟨_, rfl, by first | exact ⟨k, hk, rfl⟩ | exact ⟨k + 1, by omega, by go_num⟩ | exact ⟨k + 2, by omega, by go_num⟩⟩, ⟨_, rfl, ⟨_, rfl⟩⟩, ⟨_, rfl, ⟨_, rfl⟩⟩⟩, ⟨G, nd, dp, ng, tr, HH.out.1, HH.out.2.1, HH.out.2.2⟩⟩
  · have hlt' : (s.size : Int) ≤ (k : Int) := by omega
    go_wp2_with fail
    exact HN.out _ _ ⟨⟨rfl, rfl, rfl, rfl, ⟨_, rfl, ⟨_, rfl⟩⟩, ⟨_, rfl, by first | exact ⟨k, hk, rfl⟩ | exact ⟨k + 1, by omega, by go_num⟩ | exact ⟨k + 2, by omega, by go_num⟩⟩, ⟨_, rfl, ⟨_, rfl⟩⟩, ⟨_, rfl, ⟨_, rfl⟩⟩⟩, ⟨G, nd, dp, ng, tr, HH.out.1, HH.out.2.1, HH.out.2.2⟩⟩

end Go.Proofs.YtoeahdefgblmoaaGreatDoor
