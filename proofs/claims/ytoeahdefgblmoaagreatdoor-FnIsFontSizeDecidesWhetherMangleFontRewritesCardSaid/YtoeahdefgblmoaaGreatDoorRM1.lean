/-
  readFloat: statements walked over whatever frame (1).
-/
import Derived.Test.YtoeahdefgblmoaaGreatDoorRM0
namespace Go.Proofs.YtoeahdefgblmoaaGreatDoor
open Go.RowKit Go.Deep Go.PlainAid Go.Maps Go.Sort

set_option maxHeartbeats 4000000 in
set_option maxRecDepth 100000 in
theorem rd_loop {d : Code} (hcode : Tryz.f65.body.bind (fq 1) = some (.block 1 d)) (Q : Exit → Act → World → Prop) (a : Act) (s : ByteArray) (w : World) (hs : s.size ≤ 1048576) (ha : RF s a)
    (hN : ∀ a', RF s a' → Q .normal a' w) (hR : ∀ a', RF s a' → Q .ret a' w) : Code.wp Tryz.prog (.block 1 d) Q a w := by
  have key : ∀ {D : Code}, Tryz.f65.body.bind (fq 1) = some (.block 1 D) → Code.wp Tryz.prog (.block 1 D) Q a w → Code.wp Tryz.prog (.block 1 d) Q a w := fun e h => by
    rw [e] at hcode
    cases hcode
    exact h
  refine key rfl ?_
  clear key hcode
  have HN := Lib.hid hN
  have HR := Lib.hid hR
  clear hN hR
  obtain ⟨z1, z2, e0, ⟨_, e2, ⟨m, hm, rfl⟩⟩, ⟨_, e3, ⟨x0, rfl⟩⟩, ⟨_, e4, ⟨ng, rfl⟩⟩, ⟨_, e5, ⟨tr, rfl⟩⟩, ⟨_, e6, ⟨hx, rfl⟩⟩, ⟨_, e7, ⟨k, hk, rfl⟩⟩, ⟨_, e8, ⟨ok, rfl⟩⟩, ⟨_, e9, ⟨us, rfl⟩⟩, ⟨_, e10, ⟨bs, hbs, rfl⟩⟩, ⟨_, e11, ⟨mx, rfl⟩⟩, ⟨_, e12, ⟨ec, rfl⟩⟩, ⟨_, e13, ⟨sd, rfl⟩⟩, ⟨_, e14, ⟨sg, rfl⟩⟩, ⟨_, e15, ⟨nd, rfl⟩⟩, ⟨_, e16, ⟨nm, rfl⟩⟩, ⟨_, e17, ⟨dp, rfl⟩⟩⟩ := ha
  obtain ⟨xs, rfl, hxs⟩ := act_hr a z1 z2
  have x0' := hxs 0 _ (by omega) e0
  have x2' := hxs 2 _ (by omega) e2
  have x3' := hxs 3 _ (by omega) e3
  have x4' := hxs 4 _ (by omega) e4
  have x5' := hxs 5 _ (by omega) e5
  have x6' := hxs 6 _ (by omega) e6
  have x7' := hxs 7 _ (by omega) e7
  have x8' := hxs 8 _ (by omega) e8
  have x9' := hxs 9 _ (by omega) e9
  have x10' := hxs 10 _ (by omega) e10
  have x11' := hxs 11 _ (by omega) e11
  have x12' := hxs 12 _ (by omega) e12
  have x13' := hxs 13 _ (by omega) e13
  have x14' := hxs 14 _ (by omega) e14
  have x15' := hxs 15 _ (by omega) e15
  have x16' := hxs 16 _ (by omega) e16
  have x17' := hxs 17 _ (by omega) e17
  clear hxs z1 z2 e0 e2 e3 e4 e5 e6 e7 e8 e9 e10 e11 e12 e13 e14 e15 e16 e17
  simp only [hr, x0', x2', x3', x4', x5', x6', x7', x8', x9', x10', x11', x12', x13', x14', x15', x16', x17']
  clear x0' x2' x3' x4' x5' x6' x7' x8' x9' x10' x11' x12' x13' x14' x15' x16' x17'
  have hb := get_bt s
  go_wp2_with fail
  refine wp_loop (RW s w) (fun a _ => s.size - iN a 7) ⟨⟨rfl, rfl, rfl, ⟨_, rfl, by first | exact ⟨m, hm, rfl⟩ | exact isM_wrap _⟩, ⟨_, rfl, ⟨_, rfl⟩⟩, ⟨_, rfl, ⟨_, rfl⟩⟩, ⟨_, rfl, ⟨_, rfl⟩⟩, ⟨_, rfl, ⟨_, rfl⟩⟩, ⟨_, rfl, by first | exact ⟨k, hk, rfl⟩ | exact ⟨k + 1, by omega, by go_num⟩ | exact ⟨k + 2, by omega, by go_num⟩⟩, ⟨_, rfl, ⟨_, rfl⟩⟩, ⟨_, rfl, ⟨_, rfl⟩⟩, ⟨_, rfl, by first | exact ⟨bs, hbs, rfl⟩ | exact ⟨16, by decide, rfl⟩⟩, ⟨_, rfl, ⟨_, rfl⟩⟩, ⟨_, rfl, ⟨_, rfl⟩⟩, ⟨_, rfl, ⟨_, rfl⟩⟩, ⟨_, rfl, ⟨_, rfl⟩⟩, ⟨_, rfl, ⟨_, rfl⟩⟩, ⟨_, rfl, ⟨_, rfl⟩⟩, ⟨_, rfl, ⟨_, rfl⟩⟩⟩, rfl⟩ ?_
  clear hm hk hbs
  rintro a w' ⟨ha, rfl⟩
  obtain ⟨z1, z2, e0, ⟨_, e2, ⟨m, hm, rfl⟩⟩, ⟨_, e3, ⟨x0, rfl⟩⟩, ⟨_, e4, ⟨ng, rfl⟩⟩, ⟨_, e5, ⟨tr, rfl⟩⟩, ⟨_, e6, ⟨hx, rfl⟩⟩, ⟨_, e7, ⟨k, hk, rfl⟩⟩, ⟨_, e8, ⟨ok, rfl⟩⟩, ⟨_, e9, ⟨us, rfl⟩⟩, ⟨_, e10, ⟨bs, hbs, rfl⟩⟩, ⟨_, e11, ⟨mx, rfl⟩⟩, ⟨_, e12, ⟨ec, rfl⟩⟩, ⟨_, e13, ⟨sd, rfl⟩⟩, ⟨_, e14, ⟨sg, rfl⟩⟩, ⟨_, e15, ⟨nd, rfl⟩⟩, ⟨_, e16, ⟨nm, rfl⟩⟩, ⟨_, e17, ⟨dp, rfl⟩⟩⟩ := ha
  obtain ⟨xs, rfl, hxs⟩ := act_hr a z1 z2
  have x0' := hxs 0 _ (by omega) e0
  have x2' := hxs 2 _ (by omega) e2
  have x3' := hxs 3 _ (by omega) e3
  have x4' := hxs 4 _ (by omega) e4
  have x5' := hxs 5 _ (by omega) e5
  have x6' := hxs 6 _ (by omega) e6
  have x7' := hxs 7 _ (by omega) e7
  have x8' := hxs 8 _ (by omega) e8
  have x9' := hxs 9 _ (by omega) e9
  have x10' := hxs 10 _ (by omega) e10
  have x11' := hxs 11 _ (by omega) e11
  have x12' := hxs 12 _ (by omega) e12
  have x13' := hxs 13 _ (by omega) e13
  have x14' := hxs 14 _ (by omega) e14
  have x15' := hxs 15 _ (by omega) e15
  have x16' := hxs 16 _ (by omega) e16
  have x17' := hxs 17 _ (by omega) e17
  clear hxs z1 z2 e0 e2 e3 e4 e5 e6 e7 e8 e9 e10 e11 e12 e13 e14 e15 e16 e17
  simp only [hr, x0', x2', x3', x4', x5', x6', x7', x8', x9', x10', x11', x12', x13', x14', x15', x16', x17']
  clear x0' x2' x3' x4' x5' x6' x7' x8' x9' x10' x11' x12' x13' x14' x15' x16' x17'
  by_cases hlt : k < s.size
  · have hlt' : (k : Int) < (s.size : Int) := by omega
    go_wp2_with (first | (go_at_call 82; refine (lower_any _ _).mono ?_; rintro e w' ⟨v, rfl, ⟨x, rfl⟩, rfl⟩) | fail)
    all_goals first
      | exact HN.out _ ⟨rfl, rfl, rfl, ⟨_, rfl, by first | exact ⟨m, hm, rfl⟩ | exact isM_wrap _⟩, ⟨_, rfl, ⟨_, rfl⟩⟩, ⟨_, rfl, ⟨_, rfl⟩⟩, ⟨_, rfl, ⟨_, rfl⟩⟩, ⟨_, rfl, ⟨_, rfl⟩⟩, ⟨_, rfl, by first | exact ⟨k, hk, rfl⟩ | exact ⟨k + 1, by omega, by go_num⟩ | exact ⟨k + 2, by omega, by go_num⟩⟩, ⟨_, rfl, ⟨_, rfl⟩⟩, ⟨_, rfl, ⟨_, rfl⟩⟩, ⟨_, rfl, by first | exact ⟨bs, hbs, rfl⟩ | exact ⟨16, by decide, rfl⟩⟩, ⟨_, rfl, ⟨_, rfl⟩⟩, ⟨_, rfl, ⟨_, rfl⟩⟩, ⟨_, rfl, ⟨_, rfl⟩⟩, ⟨_, rfl, ⟨_, rfl⟩⟩, ⟨_, rfl, ⟨_, rfl⟩⟩, ⟨_, rfl, ⟨_, rfl⟩⟩, ⟨_, rfl, ⟨_, rfl⟩⟩⟩
      | exact ⟨⟨⟨rfl, rfl, rfl, ⟨_, rfl, by first | exact ⟨m, hm, rfl⟩ | exact isM_wrap _⟩, ⟨_, rfl, ⟨_, rfl⟩⟩, ⟨_, rfl, ⟨_, rfl⟩⟩, ⟨_, rfl, ⟨_, rfl⟩⟩, ⟨_, rfl, ⟨_, rfl⟩⟩, ⟨_, rfl, by first | exact ⟨k, hk, rfl⟩ | exact ⟨k + 1, by omega, by go_num⟩ | exact ⟨k + 2, by omega, by go_num⟩⟩, ⟨_, rfl, ⟨_, rfl⟩⟩, ⟨_, rfl, ⟨_, rfl⟩⟩, ⟨_, rfl, by first | exact ⟨bs, hbs, rfl⟩ | exact ⟨16, by decide, rfl⟩⟩, ⟨_, rfl, ⟨_, rfl⟩⟩, ⟨_, rfl, ⟨_, rfl⟩⟩, ⟨_, rfl, ⟨_, rfl⟩⟩, ⟨_, rfl, ⟨_, rfl⟩⟩, ⟨_, rfl, ⟨_, rfl⟩⟩, ⟨_, rfl, ⟨_, rfl⟩⟩, ⟨_, rfl, ⟨_, rfl⟩⟩⟩, rfl⟩, by simp [iN, intOf]; omega⟩
  · have hlt' : (s.size : Int) ≤ (k : Int) := by omega
    go_wp2_with fail
    exact HN.out _ ⟨rfl, rfl, rfl, ⟨_, rfl, by first | exact ⟨m, hm, rfl⟩ | exact isM_wrap _⟩, ⟨_, rfl, ⟨_, rfl⟩⟩, ⟨_, rfl, ⟨_, rfl⟩⟩, ⟨_, rfl, ⟨_, rfl⟩⟩, ⟨_, rfl, ⟨_, rfl⟩⟩, ⟨_, rfl, by first | exact ⟨k, hk, rfl⟩ | exact ⟨k + 1, by omega, by go_num⟩ | exact ⟨k + 2, by omega, by go_num⟩⟩, ⟨_, rfl, ⟨_, rfl⟩⟩, ⟨_, rfl, ⟨_, rfl⟩⟩, ⟨_, rfl, by first | exact ⟨bs, hbs, rfl⟩ | exact ⟨16, by decide, rfl⟩⟩, ⟨_, rfl, ⟨_, rfl⟩⟩, ⟨_, rfl, ⟨_, rfl⟩⟩, ⟨_, rfl, ⟨_, rfl⟩⟩, ⟨_, rfl, ⟨_, rfl⟩⟩, ⟨_, rfl, ⟨_, rfl⟩⟩, ⟨_, rfl, ⟨_, rfl⟩⟩, ⟨_, rfl, ⟨_, rfl⟩⟩⟩

end Go.Proofs.YtoeahdefgblmoaaGreatDoor
