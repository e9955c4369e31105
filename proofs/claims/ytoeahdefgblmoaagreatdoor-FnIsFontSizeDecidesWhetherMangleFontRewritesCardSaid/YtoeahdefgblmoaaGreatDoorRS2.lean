/-
  decimal.set: statements walked over whatever frame (2).
-/
import Derived.Test.YtoeahdefgblmoaaGreatDoorRS0
namespace Go.Proofs.YtoeahdefgblmoaaGreatDoor
open Go.RowKit Go.Deep Go.PlainAid Go.Maps Go.Sort

set_option maxHeartbeats 4000000 in
set_option maxRecDepth 100000 in
theorem st_if118 {d : Code} (hcode : Tryz.f71.body.bind (fi 118) = some (d)) (Q : Exit → Act → World → Prop) (a : Act) (s : ByteArray) (b : Nat) (w0 w : World) (_ : s.size ≤ 1048576) (hG : GS s b w0 a w)
    (hN : ∀ a' w', GS s b w0 a' w' → Q .normal a' w') (hR : ∀ a' w', GS s b w0 a' w' → Q .ret a' w') : Code.wp Tryz.prog (d) Q a w := by
  have key : ∀ {D : Code}, Tryz.f71.body.bind (fi 118) = some (D) → Code.wp Tryz.prog (D) Q a w → Code.wp Tryz.prog (d) Q a w := fun e h => by
    rw [e] at hcode
    cases hcode
    exact h
  refine key rfl ?_
  clear key hcode
  obtain ⟨ha, hD⟩ := hG
  have HN := Lib.hid hN
  have HR := Lib.hid hR
  clear hN hR
  obtain ⟨z1, z2, e0, e1, ⟨_, e4, ⟨ok, rfl⟩⟩, ⟨_, e5, ⟨k, hk, rfl⟩⟩, ⟨_, e6, ⟨sd, rfl⟩⟩, ⟨_, e7, ⟨sg, rfl⟩⟩⟩ := ha
  obtain ⟨xs, rfl, hxs⟩ := act_sr a z1 z2
  have x0' := hxs 0 _ (by omega) e0
  have x1' := hxs 1 _ (by omega) e1
  have x4' := hxs 4 _ (by omega) e4
  have x5' := hxs 5 _ (by omega) e5
  have x6' := hxs 6 _ (by omega) e6
  have x7' := hxs 7 _ (by omega) e7
  clear hxs z1 z2 e0 e1 e4 e5 e6 e7
  simp only [sr, x0', x1', x4', x5', x6', x7']
  clear x0' x1' x4' x5' x6' x7'
  have hb := get_bt s
  obtain ⟨G, nd, dp, ng, tr, hg, hd, hbel⟩ := hD
  have c0 := hd.cnd
  have c1 := hd.cdp
  have c2 := hd.ctr
  have f0 := hd.fz 800
  have f1 := hd.fz 801
  have f2 := hd.fz 803
  have hle := hg.le
  have HH := Lib.hid (And.intro hg (And.intro hd hbel))
  clear hg hd hbel
  cases sg
  all_goals
    go_wp2_with fail
    first
      | exact HN.out _ _ ⟨⟨rfl, rfl, rfl, rfl, ⟨_, rfl, ⟨_, rfl⟩⟩, ⟨_, rfl, by first | exact ⟨k, hk, rfl⟩ | exact ⟨k + 1, by omega, by go_num⟩ | exact ⟨k + 2, by omega, by go_num⟩⟩, ⟨_, rfl, ⟨_, rfl⟩⟩, ⟨_, rfl, ⟨_, rfl⟩⟩⟩, ⟨G, nd, dp, ng, tr, HH.out.1, HH.out.2.1, HH.out.2.2⟩⟩
      | exact HR.out _ _ ⟨⟨rfl, rfl, rfl, rfl, ⟨_, rfl, ⟨_, rfl⟩⟩, ⟨_, rfl, by first | exact ⟨k, hk, rfl⟩ | exact ⟨k + 1, by omega, by go_num⟩ | exact ⟨k + 2, by omega, by go_num⟩⟩, ⟨_, rfl, ⟨_, rfl⟩⟩, ⟨_, rfl, ⟨_, rfl⟩⟩⟩, ⟨G, nd, dp, ng, tr, HH.out.1, HH.out.2.1, HH.out.2.2⟩⟩

set_option maxHeartbeats 4000000 in
set_option maxRecDepth 100000 in
theorem st_if120 {d : Code} (hcode : Tryz.f71.body.bind (fi 120) = some (d)) (Q : Exit → Act → World → Prop) (a : Act) (s : ByteArray) (b : Nat) (w0 w : World) (_ : s.size ≤ 1048576) (hG : GS s b w0 a w)
    (hN : ∀ a' w', GS s b w0 a' w' → Q .normal a' w') (hR : ∀ a' w', GS s b w0 a' w' → Q .ret a' w') : Code.wp Tryz.prog (d) Q a w := by
  have key : ∀ {D : Code}, Tryz.f71.body.bind (fi 120) = some (D) → Code.wp Tryz.prog (D) Q a w → Code.wp Tryz.prog (d) Q a w := fun e h => by
    rw [e] at hcode
    cases hcode
    exact h
  refine key rfl ?_
  clear key hcode
  obtain ⟨ha, hD⟩ := hG
  have HN := Lib.hid hN
  have HR := Lib.hid hR
  clear hN hR
  obtain ⟨z1, z2, e0, e1, ⟨_, e4, ⟨ok, rfl⟩⟩, ⟨_, e5, ⟨k, hk, rfl⟩⟩, ⟨_, e6, ⟨sd, rfl⟩⟩, ⟨_, e7, ⟨sg, rfl⟩⟩⟩ := ha
  obtain ⟨xs, rfl, hxs⟩ := act_sr a z1 z2
  have x0' := hxs 0 _ (by omega) e0
  have x1' := hxs 1 _ (by omega) e1
  have x4' := hxs 4 _ (by omega) e4
  have x5' := hxs 5 _ (by omega) e5
  have x6' := hxs 6 _ (by omega) e6
  have x7' := hxs 7 _ (by omega) e7
  clear hxs z1 z2 e0 e1 e4 e5 e6 e7
  simp only [sr, x0', x1', x4', x5', x6', x7']
  clear x0' x1' x4' x5' x6' x7'
  have hb := get_bt s
  obtain ⟨G, nd, dp, ng, tr, hg, hd, hbel⟩ := hD
  have c0 := hd.cnd
  have c1 := hd.cdp
  have c2 := hd.ctr
  have f0 := hd.fz 800
  have f1 := hd.fz 801
  have f2 := hd.fz 803
  have hle := hg.le
  have HH := Lib.hid (And.intro hg (And.intro hd hbel))
  clear hg hd hbel
  cases sd
  · go_wp2_with fail
    exact HN.out _ _ ⟨⟨rfl, rfl, rfl, rfl, ⟨_, rfl, ⟨_, rfl⟩⟩, ⟨_, rfl, by first | exact ⟨k, hk, rfl⟩ | exact ⟨k + 1, by omega, by go_num⟩ | exact ⟨k + 2, by omega, by go_num⟩⟩, ⟨_, rfl, ⟨_, rfl⟩⟩, ⟨_, rfl, ⟨_, rfl⟩⟩⟩, ⟨G, nd, _, ng, tr, HH.out.1, HH.out.2.1.setDp _, dset HH.out.2.2 _ _⟩⟩
  · go_wp2_with fail
    exact HN.out _ _ ⟨⟨rfl, rfl, rfl, rfl, ⟨_, rfl, ⟨_, rfl⟩⟩, ⟨_, rfl, by first | exact ⟨k, hk, rfl⟩ | exact ⟨k + 1, by omega, by go_num⟩ | exact ⟨k + 2, by omega, by go_num⟩⟩, ⟨_, rfl, ⟨_, rfl⟩⟩, ⟨_, rfl, ⟨_, rfl⟩⟩⟩, ⟨G, nd, dp, ng, tr, HH.out.1, HH.out.2.1, HH.out.2.2⟩⟩

set_option maxHeartbeats 4000000 in
set_option maxRecDepth 100000 in
theorem st_if223 {d : Code} (hcode : Tryz.f71.body.bind (fi 223) = some (d)) (Q : Exit → Act → World → Prop) (a : Act) (s : ByteArray) (b : Nat) (w0 w : World) (_ : s.size ≤ 1048576) (hG : GS s b w0 a w)
    (hN : ∀ a' w', GS s b w0 a' w' → Q .normal a' w') (hR : ∀ a' w', GS s b w0 a' w' → Q .ret a' w') : Code.wp Tryz.prog (d) Q a w := by
  have key : ∀ {D : Code}, Tryz.f71.body.bind (fi 223) = some (D) → Code.wp Tryz.prog (D) Q a w → Code.wp Tryz.prog (d) Q a w := fun e h => by
    rw [e] at hcode
    cases hcode
    exact h
  refine key rfl ?_
  clear key hcode
  obtain ⟨ha, hD⟩ := hG
  have HN := Lib.hid hN
  have HR := Lib.hid hR
  clear hN hR
  obtain ⟨z1, z2, e0, e1, ⟨_, e4, ⟨ok, rfl⟩⟩, ⟨_, e5, ⟨k, hk, rfl⟩⟩, ⟨_, e6, ⟨sd, rfl⟩⟩, ⟨_, e7, ⟨sg, rfl⟩⟩⟩ := ha
  obtain ⟨xs, rfl, hxs⟩ := act_sr a z1 z2
  have x0' := hxs 0 _ (by omega) e0
  have x1' := hxs 1 _ (by omega) e1
  have x4' := hxs 4 _ (by omega) e4
  have x5' := hxs 5 _ (by omega) e5
  have x6' := hxs 6 _ (by omega) e6
  have x7' := hxs 7 _ (by omega) e7
  clear hxs z1 z2 e0 e1 e4 e5 e6 e7
  simp only [sr, x0', x1', x4', x5', x6', x7']
  clear x0' x1' x4' x5' x6' x7'
  have hb := get_bt s
  obtain ⟨G, nd, dp, ng, tr, hg, hd, hbel⟩ := hD
  have c0 := hd.cnd
  have c1 := hd.cdp
  have c2 := hd.ctr
  have f0 := hd.fz 800
  have f1 := hd.fz 801
  have f2 := hd.fz 803
  have hle := hg.le
  have HH := Lib.hid (And.intro hg (And.intro hd hbel))
  clear hg hd hbel
  go_wp2_with fail
  all_goals first
    | exact HN.out _ _ ⟨⟨rfl, rfl, rfl, rfl, ⟨_, rfl, ⟨_, rfl⟩⟩, ⟨_, rfl, by first | exact ⟨k, hk, rfl⟩ | exact ⟨k + 1, by omega, by go_num⟩ | exact ⟨k + 2, by omega, by go_num⟩⟩, ⟨_, rfl, ⟨_, rfl⟩⟩, ⟨_, rfl, ⟨_, rfl⟩⟩⟩, ⟨G, nd, dp, ng, tr, HH.out.1, HH.out.2.1, HH.out.2.2⟩⟩
    | exact HR.out _ _ ⟨⟨rfl, rfl, rfl, rfl, ⟨_, rfl, ⟨_, rfl⟩⟩, ⟨_, rfl, by first | exact ⟨k, hk, rfl⟩ | exact ⟨k + 1, by omega, by go_num⟩ | exact ⟨k + 2, by omega, by go_num⟩⟩, ⟨_, rfl, ⟨_, rfl⟩⟩, ⟨_, rfl, ⟨_, rfl⟩⟩⟩, ⟨G, nd, dp, ng, tr, HH.out.1, HH.out.2.1, HH.out.2.2⟩⟩

end Go.Proofs.YtoeahdefgblmoaaGreatDoor
