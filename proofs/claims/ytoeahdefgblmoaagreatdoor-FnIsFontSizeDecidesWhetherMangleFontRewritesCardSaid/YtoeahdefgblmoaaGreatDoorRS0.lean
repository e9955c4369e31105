/-
  decimal.set: its frames, its statements.
-/
import Derived.Test.YtoeahdefgblmoaaGreatDoorRM0
import Derived.Test.YtoeahdefgblmoaaGreatDoorRA
namespace Go.Proofs.YtoeahdefgblmoaaGreatDoor
open Go.RowKit Go.Deep Go.PlainAid Go.Maps Go.Sort

/-- A frame of 224 slots. -/
def sr (xs : Nat → Value) : Act := ⟨#[xs 0, xs 1, xs 2, xs 3, xs 4, xs 5, xs 6, xs 7, xs 8, xs 9, xs 10, xs 11, xs 12, xs 13, xs 14, xs 15, xs 16, xs 17, xs 18, xs 19, xs 20, xs 21, xs 22, xs 23, xs 24, xs 25, xs 26, xs 27, xs 28, xs 29, xs 30, xs 31, xs 32, xs 33, xs 34, xs 35, xs 36, xs 37, xs 38, xs 39, xs 40, xs 41, xs 42, xs 43, xs 44, xs 45, xs 46, xs 47, xs 48, xs 49, xs 50, xs 51, xs 52, xs 53, xs 54, xs 55, xs 56, xs 57, xs 58, xs 59, xs 60, xs 61, xs 62, xs 63, xs 64, xs 65, xs 66, xs 67, xs 68, xs 69, xs 70, xs 71, xs 72, xs 73, xs 74, xs 75, xs 76, xs 77, xs 78, xs 79, xs 80, xs 81, xs 82, xs 83, xs 84, xs 85, xs 86, xs 87, xs 88, xs 89, xs 90, xs 91, xs 92, xs 93, xs 94, xs 95, xs 96, xs 97, xs 98, xs 99, xs 100, xs 101, xs 102, xs 103, xs 104, xs 105, xs 106, xs 107, xs 108, xs 109, xs 110, xs 111, xs 112, xs 113, xs 114, xs 115, xs 116, xs 117, xs 118, xs 119, xs 120, xs 121, xs 122, xs 123, xs 124, xs 125, xs 126, xs 127, xs 128, xs 129, xs 130, xs 131, xs 132, xs 133, xs 134, xs 135, xs 136, xs 137, xs 138, xs 139, xs 140, xs 141, xs 142, xs 143, xs 144, xs 145, xs 146, xs 147, xs 148, xs 149, xs 150, xs 151, xs 152, xs 153, xs 154, xs 155, xs 156, xs 157, xs 158, xs 159, xs 160, xs 161, xs 162, xs 163, xs 164, xs 165, xs 166, xs 167, xs 168, xs 169, xs 170, xs 171, xs 172, xs 173, xs 174, xs 175, xs 176, xs 177, xs 178, xs 179, xs 180, xs 181, xs 182, xs 183, xs 184, xs 185, xs 186, xs 187, xs 188, xs 189, xs 190, xs 191, xs 192, xs 193, xs 194, xs 195, xs 196, xs 197, xs 198, xs 199, xs 200, xs 201, xs 202, xs 203, xs 204, xs 205, xs 206, xs 207, xs 208, xs 209, xs 210, xs 211, xs 212, xs 213, xs 214, xs 215, xs 216, xs 217, xs 218, xs 219, xs 220, xs 221, xs 222, xs 223], []⟩
set_option maxRecDepth 100000 in
theorem sr_eq (xs : Nat → Value) : sr xs = ⟨((List.range 224).map xs).toArray, []⟩ := by kernel_rfl
theorem act_sr (a : Act) (hs : a.tmps.size = 224) (hd : a.defers = []) : ∃ xs, a = sr xs ∧ ∀ i v, i < 224 → a.tmps[i]? = some v → xs i = v := by
  refine ⟨fun i => a.tmps.getD i .nilIface, ?_, fun i v hi h => ?_⟩
  · exact (act_some a 224 hs hd).trans (sr_eq _).symm
  · have hl : i < a.tmps.size := by rw [hs]; exact hi
    rw [Array.getElem?_eq_getElem hl, Option.some.injEq] at h
    simp only [Array.getD, hl, dif_pos]
    exact h

/-- The frame; the decimal. -/
structure RG (s : ByteArray) (b : Nat) (a : Act) : Prop where
  size : a.tmps.size = 224
  defers : a.defers = []
  s0 : a.tmps[0]? = some (.pointer (some ⟨b, 0, none⟩))
  s1 : a.tmps[1]? = some (.string s)
  s4 : ∃ v, a.tmps[4]? = some v ∧ isB v
  s5 : ∃ v, a.tmps[5]? = some v ∧ isK s.size v
  s6 : ∃ v, a.tmps[6]? = some v ∧ isB v
  s7 : ∃ v, a.tmps[7]? = some v ∧ isB v
def DS (b : Nat) (w0 w : World) : Prop := ∃ (G : Nat → Int) (nd : Nat) (dp : Int) (ng tr : Bool), Good G nd ∧ DecAt w b G nd dp ng tr ∧ Below b w0 w
def GS (s : ByteArray) (b : Nat) (w0 : World) (a : Act) (w : World) : Prop := RG s b a ∧ DS b w0 w
def GW (s : ByteArray) (b : Nat) (w : World) (a : Act) (w' : World) : Prop := RG s b a ∧ w = w'

/-- One digit more. -/
theorem DS.push {b nd : Nat} {G : Nat → Int} {dp : Int} {ng tr : Bool} {w0 w : World} {c : Int} (hg : Good G nd) (hd : DecAt w b G nd dp ng tr) (hb : Below b w0 w) (h8 : nd < 800) (h1 : 48 ≤ c) (h2 : c ≤ 57) (h0 : nd = 0 → c ≠ 48) :
    DS b w0 ((w.setCell ⟨b, nd, none⟩ (.int .u8 c)).drew.setCell ⟨b, 800, none⟩ (.int .i64 ((nd : Int) + 1))) := by
  have hd2 : DecAt ((w.setCell ⟨b, nd, none⟩ (.int .u8 c)).drew.setCell ⟨b, 800, none⟩ (.int .i64 ((nd : Int) + 1))) b (fun j => if j = nd then c else G j) (nd + 1) dp ng tr := by
    have hd1 : DecAt (w.setCell ⟨b, nd, none⟩ (.int .u8 c)).drew b (fun j => if j = nd then c else G j) nd dp ng tr := hd.setDig h8 c
    have := hd1.setNd (nd + 1)
    rw [show ((nd + 1 : Nat) : Int) = (nd : Int) + 1 by omega] at this
    exact this
  refine ⟨_, nd + 1, dp, ng, tr, ⟨by omega, fun i hi => ?_, fun i hi => ?_, fun _ => ?_⟩, hd2, dset (dset hb _ _).drew _ _⟩
  · by_cases e : i = nd
    · rw [if_pos e]; exact h1
    · rw [if_neg e]; exact hg.lo i (by omega)
  · by_cases e : i = nd
    · rw [if_pos e]; exact h2
    · rw [if_neg e]; exact hg.hi i (by omega)
  · by_cases e : 0 = nd
    · rw [if_pos e]; have := h0 e.symm; omega
    · rw [if_neg e]; exact hg.top (by omega)
end Go.Proofs.YtoeahdefgblmoaaGreatDoor
