/-
  The zero decimal, as it is laid.
  Then: decimal.set: whatever the text.
-/
import Derived.Test.YtoeahdefgblmoaaGreatDoorRA
import Derived.Test.YtoeahdefgblmoaaGreatDoorRS1
import Derived.Test.YtoeahdefgblmoaaGreatDoorRS2
import Derived.Test.YtoeahdefgblmoaaGreatDoorRS3
namespace Go.Proofs.YtoeahdefgblmoaaGreatDoor
open Go.RowKit Go.Deep Go.PlainAid Go.Maps Go.Sort

theorem zero_cells : Tryz.zeroCells171 = Array.replicate 800 (.int .u8 0) ++ #[.int .i64 0, .int .i64 0, .bool false, .bool false] := by kernel_rfl
theorem zero_size : Tryz.zeroCells171.size = 804 := by rw [zero_cells, Array.size_append, Array.size_replicate]; rfl
theorem zero_at (i : Nat) (hi : i < 804) : Tryz.zeroCells171[i]? = some (decF (fun _ => 0) 0 0 false false i) := by
  rw [zero_cells, Array.getElem?_append, Array.size_replicate]
  unfold decF
  by_cases h : i < 800
  · rw [if_pos h, if_pos h, Array.getElem?_replicate, if_pos h]
  · rw [if_neg h, if_neg h]
    obtain rfl | rfl | rfl | rfl : i = 800 ∨ i = 801 ∨ i = 802 ∨ i = 803 := by omega
    all_goals rfl
theorem dec_new (w : World) : DecAt (w.alloc (.cells Tryz.zeroCells171 171)) w.heap.size (fun _ => 0) 0 0 false false := by
  have h := World.rowIs_alloc w Tryz.zeroCells171 171 (decF (fun _ => 0) 0 0 false false) (fun i hi => zero_at i (by rw [zero_size] at hi; exact hi))
  rw [zero_size] at h
  exact h
end Go.Proofs.YtoeahdefgblmoaaGreatDoor

namespace Go.Proofs.YtoeahdefgblmoaaGreatDoor
open Go.RowKit Go.Deep Go.PlainAid Go.Maps Go.Sort

def SetPost (b : Nat) (w : World) (e : Ending) (w' : World) : Prop := (∃ r, e = .returned (.bool r)) ∧ DS b w w'
theorem st_ret {s : ByteArray} {b : Nat} {a : Act} {w0 w : World} (h : GS s b w0 a w) : bodyPost Tryz.prog Tryz.f71 (SetPost b w0) .ret a w := by
  obtain ⟨⟨_, hd, _, _, ⟨v4, e4, ⟨r, rfl⟩⟩, _⟩, hD⟩ := h
  refine bodyPost_ret (v := .bool r) ?_ hd ⟨⟨r, rfl⟩, hD⟩
  simp [results, Tryz.results71, go_sem, e4]

set_option maxHeartbeats 4000000 in
set_option maxRecDepth 100000 in
theorem set_any (b : Nat) (s : ByteArray) (w : World) (hs : s.size ≤ 1048576) (hd : DecAt w b (fun _ => 0) 0 0 false false) : Calls Tryz.prog 71 #[.pointer (some ⟨b, 0, none⟩), .string s] w (SetPost b w) := by
  have hb := get_bt s
  have c2 := hd.cng
  have c3 := hd.ctr
  have f2 := hd.fz 802
  have f3 := hd.fz 803
  have hg : Good (fun _ => (0 : Int)) 0 := ⟨by omega, fun i h => by omega, fun i h => by omega, fun h => by omega⟩
  have H1 := Lib.hid ((hd.setNg false).setTr false)
  have hB : Below b w ((w.setCell ⟨b, 802, none⟩ (.bool false)).setCell ⟨b, 803, none⟩ (.bool false)) := dset (dset (Below.refl b w) _ _) _ _
  have HB := Lib.hid (And.intro hg hB)
  clear hd hg hB
  by_cases h0 : s.size = 0
  · have he : s = ByteArray.empty := by
      apply ByteArray.ext
      apply Array.eq_empty_of_size_eq_zero
      exact h0
    subst he
    go_enter Tryz.func71, Tryz.ntmps71
    go_wp2_with fail
    go_ret
    exact ⟨⟨_, rfl⟩, _, _, _, _, _, HB.out.1, H1.out, HB.out.2⟩
  have hp : 0 < s.size := by omega
  have hne := ne_empty hp
  go_enter Tryz.func71, Tryz.ntmps71
  go_upto_block 1 with fail
  all_goals
    rename_i K hK
    first
      | refine st_loop rfl _ _ s b w _ hs ⟨⟨rfl, rfl, rfl, rfl, ⟨_, rfl, ⟨_, rfl⟩⟩, ⟨_, rfl, by first | exact ⟨0, by omega, rfl⟩ | exact ⟨1, by omega, by go_num⟩⟩, ⟨_, rfl, ⟨_, rfl⟩⟩, ⟨_, rfl, ⟨_, rfl⟩⟩⟩, _, _, _, _, _, HB.out.1, H1.out, HB.out.2⟩ (fun a w1 h => ?_) (fun a w1 h => st_ret h)
      | refine st_loop rfl _ _ s b w _ hs ⟨⟨rfl, rfl, rfl, rfl, ⟨_, rfl, ⟨_, rfl⟩⟩, ⟨_, rfl, by first | exact ⟨0, by omega, rfl⟩ | exact ⟨1, by omega, by go_num⟩⟩, ⟨_, rfl, ⟨_, rfl⟩⟩, ⟨_, rfl, ⟨_, rfl⟩⟩⟩, _, _, _, _, _, HB.out.1, H1.out.setNg true, dset HB.out.2 _ _⟩ (fun a w1 h => ?_) (fun a w1 h => st_ret h)
    show K _ _
    refine hK _ _ ?_
    refine wp_seq ?_
    refine st_if118 rfl _ _ s b w _ hs h (fun a w1 h => ?_) (fun a w1 h => st_ret h)
    refine wp_seq ?_
    refine st_if120 rfl _ _ s b w _ hs h (fun a w1 h => ?_) (fun a w1 h => st_ret h)
    refine wp_seq ?_
    refine st_if138 rfl _ _ s b w _ hs h (fun a w1 h => ?_) (fun a w1 h => st_ret h)
    refine wp_seq ?_
    refine st_if223 rfl _ _ s b w _ hs h (fun a w1 h => ?_) (fun a w1 h => st_ret h)
    show Code.wp Tryz.prog _ _ _ _
    obtain ⟨h, hD⟩ := h
    obtain ⟨z1, z2, e0, e1, ⟨_, e4, ⟨ok, rfl⟩⟩, ⟨_, e5, ⟨k, hk, rfl⟩⟩, ⟨_, e6, ⟨sd, rfl⟩⟩, ⟨_, e7, ⟨sg, rfl⟩⟩⟩ := h
    obtain ⟨xs, rfl, hxs⟩ := act_sr a z1 z2
    have x0' := hxs 0 _ (by omega) e0
    have x1' := hxs 1 _ (by omega) e1
    have x4' := hxs 4 _ (by omega) e4
    have x5' := hxs 5 _ (by omega) e5
    have x6' := hxs 6 _ (by omega) e6
    have x7' := hxs 7 _ (by omega) e7
    clear hxs z1 z2 e0 e1 e4 e5 e6 e7
    simp only [sr, x0', x1', x4', x5', x6', x7']
    clear x0' x1' x4' x5' x6' x7'
    go_wp2_with fail
    exact st_ret ⟨⟨rfl, rfl, rfl, rfl, ⟨_, rfl, ⟨_, rfl⟩⟩, ⟨_, rfl, by first | exact ⟨k, hk, rfl⟩ | exact ⟨k + 1, by omega, by go_num⟩ | exact ⟨k + 2, by omega, by go_num⟩⟩, ⟨_, rfl, ⟨_, rfl⟩⟩, ⟨_, rfl, ⟨_, rfl⟩⟩⟩, hD⟩
end Go.Proofs.YtoeahdefgblmoaaGreatDoor
