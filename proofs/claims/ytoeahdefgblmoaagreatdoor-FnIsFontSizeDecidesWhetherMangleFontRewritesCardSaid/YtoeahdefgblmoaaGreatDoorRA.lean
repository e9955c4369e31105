/-
  The decimal in memory; trim.
-/
import Derived.Test.YtoeahdefgblmoaaGreatDoorB
import Derived.Maps.OwnSet
import Derived.Deep.RegionWith
import Derived.Lib.QuietBelow
import Derived.Deep.QuietTactic
import Derived.Lib.Slices
import Derived.Test.YtoeahdefgblmoaaGreatDoorR0
namespace Go.Proofs.YtoeahdefgblmoaaGreatDoor
open Go.RowKit Go.Deep Go.PlainAid Go.Maps Go.Sort

/-- The cells of a decimal. -/
def decF (G : Nat → Int) (nd dp : Int) (ng tr : Bool) (i : Nat) : Value :=
  if i < 800 then .int .u8 (G i) else if i = 800 then .int .i64 nd else if i = 801 then .int .i64 dp else if i = 802 then .bool ng else .bool tr
/-- Block b is a decimal. -/
def DecAt (w : World) (b : Nat) (G : Nat → Int) (nd : Nat) (dp : Int) (ng tr : Bool) : Prop := w.rowIs b 171 804 (decF G nd dp ng tr)
/-- Its digits are digits, the first is not nought. -/
structure Good (G : Nat → Int) (nd : Nat) : Prop where
  le : nd ≤ 800
  lo : ∀ i, i < nd → 48 ≤ G i
  hi : ∀ i, i < nd → G i ≤ 57
  top : 0 < nd → 49 ≤ G 0

section
variable {w w' : World} {b nd : Nat} {G : Nat → Int} {dp : Int} {ng tr : Bool}
theorem DecAt.dig (h : DecAt w b G nd dp ng tr) {i : Nat} (hi : i < 800) : w.cell? ⟨b, i, none⟩ = some (.int .u8 (G i)) := by
  rw [World.rowIs.cell h (by omega)]
  unfold decF
  rw [if_pos hi]
theorem DecAt.cnd (h : DecAt w b G nd dp ng tr) : w.cell? ⟨b, 800, none⟩ = some (.int .i64 nd) := World.rowIs.cell h (by omega)
theorem DecAt.cdp (h : DecAt w b G nd dp ng tr) : w.cell? ⟨b, 801, none⟩ = some (.int .i64 dp) := World.rowIs.cell h (by omega)
theorem DecAt.cng (h : DecAt w b G nd dp ng tr) : w.cell? ⟨b, 802, none⟩ = some (.bool ng) := World.rowIs.cell h (by omega)
theorem DecAt.ctr (h : DecAt w b G nd dp ng tr) : w.cell? ⟨b, 803, none⟩ = some (.bool tr) := World.rowIs.cell h (by omega)
theorem DecAt.fz (h : DecAt w b G nd dp ng tr) (i : Nat) : w.frozen? ⟨b, i, none⟩ = false := World.rowIs.frozen h i
theorem DecAt.lt (h : DecAt w b G nd dp ng tr) : b < w.heap.size := World.rowIs.lt h
theorem DecAt.setDig (h : DecAt w b G nd dp ng tr) {i : Nat} (hi : i < 800) (x : Int) : DecAt (w.setCell ⟨b, i, none⟩ (.int .u8 x)) b (fun j => if j = i then x else G j) nd dp ng tr :=
  (World.rowIs.set h i _).congr fun j _ => by
    unfold decF
    by_cases e : j = i
    · subst e; simp [hi]
    · simp [e]
theorem DecAt.setNd (h : DecAt w b G nd dp ng tr) (n : Nat) : DecAt (w.setCell ⟨b, 800, none⟩ (.int .i64 n)) b G n dp ng tr :=
  (World.rowIs.set h 800 _).congr fun j _ => by
    unfold decF
    by_cases e : j = 800
    · subst e; simp
    · simp only [if_neg e]
theorem DecAt.setDp (h : DecAt w b G nd dp ng tr) (n : Int) : DecAt (w.setCell ⟨b, 801, none⟩ (.int .i64 n)) b G nd n ng tr :=
  (World.rowIs.set h 801 _).congr fun j _ => by
    unfold decF
    by_cases e : j = 801
    · subst e; simp
    · simp only [if_neg e]
theorem DecAt.setNg (h : DecAt w b G nd dp ng tr) (n : Bool) : DecAt (w.setCell ⟨b, 802, none⟩ (.bool n)) b G nd dp n tr :=
  (World.rowIs.set h 802 _).congr fun j _ => by
    unfold decF
    by_cases e : j = 802
    · subst e; simp
    · simp only [if_neg e]
theorem DecAt.setTr (h : DecAt w b G nd dp ng tr) (n : Bool) : DecAt (w.setCell ⟨b, 803, none⟩ (.bool n)) b G nd dp ng n :=
  (World.rowIs.set h 803 _).congr fun j hj => by
    unfold decF
    by_cases e : j = 803
    · subst e; simp
    · rw [if_neg e]
      have : j < 803 := by omega
      by_cases h1 : j < 800
      · simp only [if_pos h1]
      · by_cases h2 : j = 800
        · subst h2; rfl
        · by_cases h3 : j = 801
          · subst h3; rfl
          · obtain rfl : j = 802 := by omega
            rfl
/-- What a cell's number is. -/
def natAt (w : World) (b i : Nat) : Nat := match w.cell? ⟨b, i, none⟩ with | some (.int _ x) => x.toNat | _ => 0
theorem DecAt.natNd (h : DecAt w b G nd dp ng tr) : natAt w b 800 = nd := by
  unfold natAt
  rw [h.cnd]
  exact Int.toNat_natCast nd
end

theorem dset {b : Nat} {a w : World} (h : Below b a w) (o : Nat) (v : Value) : Below b a (w.setCell ⟨b, o, none⟩ v) := h.setCell (Nat.le_refl b) v

def TrimPost (b : Nat) (G : Nat → Int) (nd : Nat) (dp : Int) (ng tr : Bool) (w : World) (e : Ending) (w' : World) : Prop :=
  e = .returned (.tuple #[]) ∧ ∃ nd', 1 ≤ nd' ∧ nd' ≤ nd ∧ DecAt w' b G nd' dp ng tr ∧ Below b w w'

set_option maxHeartbeats 1000000 in
theorem trim_any (b : Nat) (G : Nat → Int) (nd : Nat) (dp : Int) (ng tr : Bool) (w : World) (h1 : 1 ≤ nd) (h2 : nd ≤ 800) (h0 : 49 ≤ G 0) (hd : DecAt w b G nd dp ng tr) :
    Calls Tryz.prog 105 #[.pointer (some ⟨b, 0, none⟩)] w (TrimPost b G nd dp ng tr w) := by
  have HD := Lib.hid hd
  clear hd
  go_enter Tryz.func105, Tryz.ntmps105
  go_wp2
  go_loopw [] (fun wr => ∃ k : Nat, 1 ≤ k ∧ k ≤ nd ∧ Hid (DecAt wr b G k dp ng tr) ∧ Hid (Below b w wr)) (fun wr => natAt wr b 800)
  case atStart => exact ⟨nd, h1, Nat.le_refl _, HD, Lib.hid (Below.refl _ _)⟩
  case round =>
    obtain ⟨k, hk1, hk, hD, hB⟩ := hrel
    obtain ⟨q, rfl⟩ : ∃ q, k = q + 1 := ⟨k - 1, by omega⟩
    have c0 := hD.out.cnd
    have c1 := hD.out.dig (i := q) (by omega)
    have f0 := hD.out.fz 800
    have c2 := hD.out.cdp
    have f1 := hD.out.fz 801
    by_cases hq : G q = 48
    · have hq1 : 1 ≤ q := by
        rcases Nat.eq_zero_or_pos q with e | e
        · subst e; omega
        · exact e
      go_wp2_with fail
      go_region
      go_wp2_with fail
      have hD2 := hD.out.setNd q
      refine ⟨⟨q, hq1, by omega, Lib.hid hD2, Lib.hid (dset hB.out 800 _).drew⟩, ?_⟩
      rw [hD.out.natNd]
      exact Nat.lt_of_le_of_lt (Nat.le_of_eq (show natAt (wr.setCell ⟨b, 800, none⟩ (.int .i64 q)) b 800 = q from hD2.natNd)) (Nat.lt_succ_self q)
    · have hq2 : (G q == 48) = false := beq_eq_false_iff_ne.2 hq
      go_wp2_with fail
      go_region
      go_wp2_with fail
      refine bodyPost_end (v := .tuple #[]) (by simp [results, Tryz.results105, go_sem]) rfl ?_
      exact ⟨rfl, q + 1, by omega, by omega, hD.out, hB.out.drew⟩
end Go.Proofs.YtoeahdefgblmoaaGreatDoor
