/-
  readFloat: whatever the text.
-/
import Derived.Test.YtoeahdefgblmoaaGreatDoorRM1
import Derived.Test.YtoeahdefgblmoaaGreatDoorRM2
import Derived.Test.YtoeahdefgblmoaaGreatDoorRM3
import Derived.Test.YtoeahdefgblmoaaGreatDoorRM4
namespace Go.Proofs.YtoeahdefgblmoaaGreatDoor
open Go.RowKit Go.Deep Go.PlainAid Go.Maps Go.Sort

theorem rd_results {s : ByteArray} {a : Act} {w : World} (h : RF s a) : bodyPost Tryz.prog Tryz.f65 (Gives (isRd s.size) w) .ret a w := by
  obtain ⟨_, hd, _, ⟨v2, e2, k2⟩, ⟨v3, e3, k3⟩, ⟨v4, e4, k4⟩, ⟨v5, e5, k5⟩, ⟨v6, e6, k6⟩, ⟨v7, e7, k7⟩, ⟨v8, e8, k8⟩, _⟩ := h
  refine bodyPost_ret (v := .tuple #[v2, v3, v4, v5, v6, v7, v8]) ?_ hd ⟨_, rfl, ⟨v2, v3, v4, v5, v6, v7, v8, k2, k3, k4, k5, k6, k7, k8, rfl⟩, rfl⟩
  simp [results, Tryz.results65, go_sem, e2, e3, e4, e5, e6, e7, e8]

set_option maxHeartbeats 4000000 in
set_option maxRecDepth 100000 in
theorem read_any (s : ByteArray) (w : World) (hs : s.size ≤ 1048576) : Calls Tryz.prog 65 #[.string s] w (Gives (isRd s.size) w) := by
  have hb := get_bt s
  by_cases h0 : s.size = 0
  · have he : s = ByteArray.empty := by
      apply ByteArray.ext
      apply Array.eq_empty_of_size_eq_zero
      exact h0
    subst he
    go_enter Tryz.func65, Tryz.ntmps65
    go_wp2_with fail
    go_step3
    go_wp2_with fail
    refine bodyPost_ret (v := .tuple #[_, _, _, _, _, _, _]) (by simp [results, Tryz.results65, go_sem]; exact ⟨rfl, rfl, rfl, rfl, rfl, rfl, rfl⟩) rfl ?_
    exact ⟨_, rfl, ⟨_, _, _, _, _, _, _, ⟨0, by decide, rfl⟩, ⟨_, rfl⟩, ⟨_, rfl⟩, ⟨_, rfl⟩, ⟨_, rfl⟩, ⟨0, by omega, rfl⟩, ⟨_, rfl⟩, rfl⟩, rfl⟩
  have hp : 0 < s.size := by omega
  have hne := ne_empty hp
  go_enter Tryz.func65, Tryz.ntmps65
  go_wp2_with fail
  go_step3
  go_upto_block 0 with fail
  go_cut [4, 7] (fun s4 s7 wx => isB s4 ∧ isK s.size s7 ∧ wx = w)
  case first =>
    go_wp2_with fail
    all_goals
      go_meet
      first
        | exact ⟨⟨_, rfl⟩, ⟨0, by omega, rfl⟩, rfl⟩
        | exact ⟨⟨_, rfl⟩, ⟨1, by omega, rfl⟩, rfl⟩
  case rest =>
  obtain ⟨⟨ng, rfl⟩, ⟨k0, hk0, rfl⟩, rfl⟩ := hcut
  go_upto_region 12 with fail
  go_cut [54] (fun s54 wx => (∃ c, s54 = .bool c ∧ Hid (c = true → k0 + 2 < s.size)) ∧ wx = wc)
  case first =>
    go_wp2_with (first | (go_at_call 82; refine (lower_any _ _).mono ?_; rintro e w' ⟨v, rfl, ⟨x, rfl⟩, rfl⟩) | fail)
    all_goals
      go_meet
      exact ⟨⟨_, rfl, Lib.hid (by first | (intro _; omega) | (intro h; cases h))⟩, rfl⟩
  case rest =>
  obtain ⟨⟨c, rfl, hc⟩, rfl⟩ := hcut
  go_upto_if 54 with fail
  go_cut [6, 7, 10, 11, 12] (fun s6 s7 s10 s11 s12 wx => isB s6 ∧ isK s.size s7 ∧ isM s10 ∧ isJ s11 ∧ isU8 s12 ∧ wx = wc)
  case first =>
    cases c
    · go_wp2_with fail
      go_meet
      exact ⟨⟨_, rfl⟩, ⟨k0, hk0, rfl⟩, ⟨10, by decide, rfl⟩, ⟨_, rfl⟩, ⟨_, rfl⟩, rfl⟩
    · have h1 := hc.out rfl
      go_wp2_with fail
      go_meet
      exact ⟨⟨_, rfl⟩, ⟨k0 + 2, by omega, by go_num⟩, ⟨16, by decide, rfl⟩, ⟨_, rfl⟩, ⟨_, rfl⟩, rfl⟩
  case rest =>
  obtain ⟨⟨hx, rfl⟩, ⟨k1, hk1, rfl⟩, ⟨bs, hbs, rfl⟩, ⟨mx, rfl⟩, ⟨ec, rfl⟩, rfl⟩ := hcut
  clear hc
  go_wp2_with fail
  refine wp_label ?_
  rename_i K hK
  show K _ _
  refine hK _ _ ?_
  have hret : ∀ a', RF s a' → Exit.noGoto (bodyPost Tryz.prog Tryz.f65 (Gives (isRd s.size) wc)) .ret a' wc := fun a' h => rd_results h
  refine wp_seq ?_
  refine rd_loop rfl _ _ s wc hs ⟨rfl, rfl, rfl, ⟨_, rfl, ⟨0, by decide, rfl⟩⟩, ⟨_, rfl, ⟨_, rfl⟩⟩, ⟨_, rfl, ⟨_, rfl⟩⟩, ⟨_, rfl, ⟨_, rfl⟩⟩, ⟨_, rfl, ⟨_, rfl⟩⟩, ⟨_, rfl, ⟨k1, hk1, rfl⟩⟩, ⟨_, rfl, ⟨_, rfl⟩⟩, ⟨_, rfl, ⟨_, rfl⟩⟩, ⟨_, rfl, ⟨bs, hbs, rfl⟩⟩, ⟨_, rfl, ⟨_, rfl⟩⟩, ⟨_, rfl, ⟨_, rfl⟩⟩, ⟨_, rfl, ⟨_, rfl⟩⟩, ⟨_, rfl, ⟨_, rfl⟩⟩, ⟨_, rfl, ⟨_, rfl⟩⟩, ⟨_, rfl, ⟨_, rfl⟩⟩, ⟨_, rfl, ⟨_, rfl⟩⟩⟩ (fun a h => ?_) (fun a h => hret a h)
  refine wp_seq ?_
  refine rd_if140 rfl _ _ s wc hs h (fun a h => ?_) (fun a h => hret a h)
  refine wp_seq ?_
  refine rd_if142 rfl _ _ s wc hs h (fun a h => ?_) (fun a h => hret a h)
  refine wp_seq ?_
  refine rd_if145 rfl _ _ s wc hs h (fun a h => ?_) (fun a h => hret a h)
  refine wp_seq ?_
  refine rd_if161 rfl _ _ s wc hs h (fun a h => ?_) (fun a h => hret a h)
  refine wp_seq ?_
  refine rd_if241 rfl _ _ s wc hs h (fun a h => ?_) (fun a h => hret a h)
  refine wp_seq ?_
  refine rd_if252 rfl _ _ s wc hs h (fun a h => ?_) (fun a h => hret a h)
  show Code.wp Tryz.prog _ _ _ _
  obtain ⟨z1, z2, e0, ⟨_, e2, ⟨m, hm, rfl⟩⟩, ⟨_, e3, ⟨x0, rfl⟩⟩, ⟨_, e4, ⟨ng, rfl⟩⟩, ⟨_, e5, ⟨tr, rfl⟩⟩, ⟨_, e6, ⟨hx, rfl⟩⟩, ⟨_, e7, ⟨k, hk, rfl⟩⟩, ⟨_, e8, ⟨ok, rfl⟩⟩, ⟨_, e9, ⟨us, rfl⟩⟩, ⟨_, e10, ⟨bs, hbs, rfl⟩⟩, ⟨_, e11, ⟨mx, rfl⟩⟩, ⟨_, e12, ⟨ec, rfl⟩⟩, ⟨_, e13, ⟨sd, rfl⟩⟩, ⟨_, e14, ⟨sg, rfl⟩⟩, ⟨_, e15, ⟨nd, rfl⟩⟩, ⟨_, e16, ⟨nm, rfl⟩⟩, ⟨_, e17, ⟨dp, rfl⟩⟩⟩ := h
  obtain ⟨xs, rfl, hxs⟩ := act_hr a z1 z2
  have x0' := hxs 0 _ (by omega) e0
  have x2' := hxs 2 _ (by omega) e2
  have x3' := hxs 3 _ (by omega) e3
  have x4' := hxs 4 _ (by omega) e4
  have x5' := hxs 5 _ (by omega) e5
  have x6' := hxs 6 _ (by omega) e6
  have x7' := hxs 7 _ (by omega) e7
  have x8' := hxs 8 _ (by omega) e8
  have x9' := hxs 9 _ (by omega) e9
  have x10' := hxs 10 _ (by omega) e10
  have x11' := hxs 11 _ (by omega) e11
  have x12' := hxs 12 _ (by omega) e12
  have x13' := hxs 13 _ (by omega) e13
  have x14' := hxs 14 _ (by omega) e14
  have x15' := hxs 15 _ (by omega) e15
  have x16' := hxs 16 _ (by omega) e16
  have x17' := hxs 17 _ (by omega) e17
  clear hxs z1 z2 e0 e2 e3 e4 e5 e6 e7 e8 e9 e10 e11 e12 e13 e14 e15 e16 e17
  simp only [hr, x0', x2', x3', x4', x5', x6', x7', x8', x9', x10', x11', x12', x13', x14', x15', x16', x17']
  clear x0' x2' x3' x4' x5' x6' x7' x8' x9' x10' x11' x12' x13' x14' x15' x16' x17'
  go_wp2_with fail
  exact hret _ ⟨rfl, rfl, rfl, ⟨_, rfl, by first | exact ⟨m, hm, rfl⟩ | exact isM_wrap _⟩, ⟨_, rfl, ⟨_, rfl⟩⟩, ⟨_, rfl, ⟨_, rfl⟩⟩, ⟨_, rfl, ⟨_, rfl⟩⟩, ⟨_, rfl, ⟨_, rfl⟩⟩, ⟨_, rfl, by first | exact ⟨k, hk, rfl⟩ | exact ⟨k + 1, by omega, by go_num⟩ | exact ⟨k + 2, by omega, by go_num⟩⟩, ⟨_, rfl, ⟨_, rfl⟩⟩, ⟨_, rfl, ⟨_, rfl⟩⟩, ⟨_, rfl, by first | exact ⟨bs, hbs, rfl⟩ | exact ⟨16, by decide, rfl⟩⟩, ⟨_, rfl, ⟨_, rfl⟩⟩, ⟨_, rfl, ⟨_, rfl⟩⟩, ⟨_, rfl, ⟨_, rfl⟩⟩, ⟨_, rfl, ⟨_, rfl⟩⟩, ⟨_, rfl, ⟨_, rfl⟩⟩, ⟨_, rfl, ⟨_, rfl⟩⟩, ⟨_, rfl, ⟨_, rfl⟩⟩⟩
end Go.Proofs.YtoeahdefgblmoaaGreatDoor
