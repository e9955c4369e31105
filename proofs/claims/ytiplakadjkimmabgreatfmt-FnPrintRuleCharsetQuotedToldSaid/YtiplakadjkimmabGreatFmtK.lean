/-
  The printer's text buffer: print and printIndent.
-/
import Derived.Test.YtiplakadjkimmabGreatFmtB
import Derived.Lib.AppendStr
import Derived.Deep.AppendLies
import Derived.Deep.RegionLaw
import Derived.StillTailTactics
import Derived.Deep.DeepCutAuto
import Derived.Maps.AppendAt
namespace Go.Proofs.YtiplakadjkimmabGreatFmt
open Go.RowKit Go.Deep

/-- Bytes as cells. -/
def bv (l : List UInt8) : List Value := l.map fun b => Value.int .u8 b.toNat
theorem bv_append (a b : List UInt8) : bv (a ++ b) = bv a ++ bv b := by simp [bv]
theorem bv_length (a : List UInt8) : (bv a).length = a.length := by simp [bv]
theorem bv_str (s : ByteArray) : Lib.strCells s = bv s.data.toList := rfl

theorem info5 : (Tryz.prog.info? 5).map (fun i => (i.zero, i.size, i.bytes)) = some (some (.int .u8 0), 1, 1) := by kernel_rfl

/-- The printer's options, and that its buffer may be written. -/
def Opt (B : Nat) (mn : Bool) (ft : Nat) (w : World) : Prop :=
  (w.cell? ⟨B, 3, none⟩ = some (.int .i64 0) ∧ w.cell? ⟨B, 5, none⟩ = some (.int .u16 ft)) ∧ (w.cell? ⟨B, 6, none⟩ = some (.bool mn) ∧ w.cell? ⟨B, 7, none⟩ = some (.bool false)) ∧ w.cell? ⟨B, 9, none⟩ = some (.bool false) ∧ w.frozen? ⟨B, 15, none⟩ = false

theorem Opt.far {B : Nat} {mn : Bool} {ft : Nat} {w w' : World} {row : Option Nat} (h : Opt B mn ft w) (hg : w.grownBy w' row) (hne : some B ≠ row) : Opt B mn ft w' := by
  obtain ⟨⟨c3, c5⟩, ⟨c6, c7⟩, c9, fz⟩ := h
  have hB : B < w.heap.size := World.block_lt_of_cell? _ _ c3
  have hc := fun i => hg.cell_far ⟨B, i, none⟩ hB hne
  exact ⟨⟨(hc 3).trans c3, (hc 5).trans c5⟩, ⟨(hc 6).trans c6, (hc 7).trans c7⟩, (hc 9).trans c9, (hg.frozen_far ⟨B, 15, none⟩ hB hne).trans fz⟩

theorem Opt.set {B : Nat} {mn : Bool} {ft : Nat} {w : World} (h : Opt B mn ft w) (v : Value) : Opt B mn ft (w.setCell ⟨B, 15, none⟩ v) := by
  obtain ⟨⟨c3, c5⟩, ⟨c6, c7⟩, c9, fz⟩ := h
  exact ⟨⟨(cell_set_off (by decide)).trans c3, (cell_set_off (by decide)).trans c5⟩, ⟨(cell_set_off (by decide)).trans c6, (cell_set_off (by decide)).trans c7⟩, (cell_set_off (by decide)).trans c9, by rw [World.frozen?_setCell]; exact fz⟩

/-- The printer at block B has written the bytes l. -/
def Css (B : Nat) (mn : Bool) (ft : Nat) (l : List UInt8) (w : World) : Prop :=
  Opt B mn ft w ∧ ∃ v, w.cell? ⟨B, 15, none⟩ = some v ∧ w.ownsRow (B + 1) 5 1 v l.length (bv l)

theorem own_ne {w : World} {base : Nat} {e : TypeId} {size : Nat} {v : Value} {n : Nat} {xs : List Value} (h : w.ownsRow base e size v n xs) {b : Nat} (hb : b < base) : some b ≠ v.ownBlock := fun e1 => by
  have := h.lt b e1.symm
  omega

theorem Css.lt {B : Nat} {mn : Bool} {ft : Nat} {l : List UInt8} {w : World} (h : Css B mn ft l w) : B < w.heap.size := World.block_lt_of_cell? _ _ h.1.1.1

/-- Where the buffer is not touched. -/
theorem Css.far {B : Nat} {mn : Bool} {ft : Nat} {l : List UInt8} {w w' : World} (h : Css B mn ft l w) (hg : w.grownBy w' none) : Css B mn ft l w' := by
  obtain ⟨ho, v, hc, hr⟩ := h
  have hB : B < w.heap.size := World.block_lt_of_cell? _ _ hc
  exact ⟨ho.far hg (by simp), v, (hg.cell_far ⟨B, 15, none⟩ hB (by simp)).trans hc, hr.kept hg (by by_cases e : v.ownBlock = none <;> simp [e])⟩

theorem Css.alloc {B : Nat} {mn : Bool} {ft : Nat} {l : List UInt8} {w : World} (h : Css B mn ft l w) (o : Obj) : Css B mn ft l (w.alloc o) := h.far (World.grownBy_alloc w o none)
theorem Css.drew {B : Nat} {mn : Bool} {ft : Nat} {l : List UInt8} {w : World} (h : Css B mn ft l w) : Css B mn ft l w.drew := h

/-- A block of other cells, which is not the printer's, stands. -/
def Keep (B : Nat) (w w' : World) : Prop := ∀ k cs e p, k < w.heap.size → k ≠ B → e ≠ 5 → w.heap[k]? = some (.cells cs e p) → w'.heap[k]? = some (.cells cs e p)
/-- Nothing below is turned, and what Keep says. -/
def Bel (B : Nat) (w w' : World) : Prop := Below B w w' ∧ Keep B w w'
theorem Bel.refl (B : Nat) (w : World) : Bel B w w := ⟨Below.refl _ _, fun _ _ _ _ _ _ _ h => h⟩
theorem Bel.trans {B : Nat} {w w1 w2 : World} (h : Bel B w w1) (h2 : Bel B w1 w2) : Bel B w w2 :=
  ⟨h.1.trans h2.1, fun k cs e p hk hB he hc => h2.2 k cs e p (by have := (Array.getElem?_eq_some_iff.1 (h.2 k cs e p hk hB he hc)).1; exact this) hB he (h.2 k cs e p hk hB he hc)⟩
theorem own_other {w : World} {base : Nat} {size : Nat} {v : Value} {n : Nat} {xs : List Value} (h : w.ownsRow base 5 size v n xs) {k : Nat} {cs : Array Value} {e : TypeId} {p : Nat × Nat} (he : e ≠ 5) (hc : w.heap[k]? = some (.cells cs e p)) : some k ≠ v.ownBlock := fun e1 => by
  rcases h.2 with ⟨hv, _⟩ | ⟨g, cap, cur, hv, _, hg, _⟩
  · rw [hv] at e1; cases e1
  · rw [hv] at e1
    have e2 : k = g := Option.some.inj e1
    subst e2
    rw [hg] at hc
    injection hc with hc
    injection hc with _ h2 _
    exact he h2.symm

/-- Behind an append and the store. -/
theorem css_app {B : Nat} {mn : Bool} {ft : Nat} {l l2 : List UInt8} {w w1 : World} {v v' : Value} (ho : Opt B mn ft w) (hc : w.cell? ⟨B, 15, none⟩ = some v) (hr : w.ownsRow (B + 1) 5 1 v l.length (bv l)) (hg : w.grownBy w1 v.ownBlock)
    {n : Nat} (hn : n = (l ++ l2).length) {xs : List Value} (hx : xs = bv (l ++ l2)) (hr1 : w1.ownsRow (B + 1) 5 1 v' n xs) : Css B mn ft (l ++ l2) (w1.setCell ⟨B, 15, none⟩ v') ∧ ∀ w0, Bel B w0 w → Bel B w0 (w1.setCell ⟨B, 15, none⟩ v') := by
  subst hn hx
  have hB : B < w.heap.size := World.block_lt_of_cell? _ _ hc
  have hne := own_ne hr (Nat.lt_succ_self B)
  refine ⟨⟨(ho.far hg hne).set v', v', ?_, ?_⟩, fun w0 hb => hb.trans ⟨?_, fun k cs e p hk hkB he hc2 => ?_⟩⟩
  · rw [World.cell?_setCell_same' _ _ _ (by rw [hg.cell_far ⟨B, 15, none⟩ hB hne, hc]; rfl)]
  · exact hr1.kept (grown_set w1 B 15 v') (Or.inr (own_ne hr1 (Nat.lt_succ_self B)).symm)
  · exact ((Below.refl B w).grown hg (by omega) (fun k hk => by have := (hr.lt k hk).1; omega)).setCell (show B ≤ (⟨B, 15, none⟩ : Addr).block from Nat.le_refl B) _
  · rw [Below.heap_setCell _ _ _ _ (show k ≠ B from hkB), hg.block k hk (own_other hr he hc2)]
    exact hc2

theorem bs_len (s : ByteArray) : s.data.toList.length = s.size := Array.length_toList

theorem own_slice {w : World} {base : Nat} {e : TypeId} {size : Nat} {v : Value} {n : Nat} {xs : List Value} (h : w.ownsRow base e size v n xs) : ∃ a n m, v = .slice a n m := by
  rcases h.2 with ⟨hv, _⟩ | ⟨g, cap, cur, hv, _⟩
  · exact ⟨_, _, _, hv⟩
  · exact ⟨_, _, _, hv⟩

set_option maxHeartbeats 1000000 in
set_option maxRecDepth 100000 in
/-- print. -/
theorem print_any' (B : Nat) (mn : Bool) (ft : Nat) (l : List UInt8) (s : ByteArray) (w : World) (h : Css B mn ft l w) (hs : l.length + s.size ≤ 140737488355328) :
    Calls Tryz.prog 31 #[.pointer (some ⟨B, 0, none⟩), .string s] w fun e w' => e = .returned (.tuple #[]) ∧ Hid (Css B mn ft (l ++ s.data.toList) w') ∧ Hid (Bel B w w') := by
  have hBs := h.lt
  obtain ⟨ho, v, hc, hr⟩ := h
  obtain ⟨i0, hi0, hz0, hz1, hz2⟩ := info_parts info5
  have hf := ho.2.2.2
  have HO := Lib.hid ho
  have HR := Lib.hid hr
  have hne := own_ne hr (Nat.lt_succ_self B)
  have HN := Lib.hid hne
  clear ho hr hne
  go_enter Tryz.func31, Tryz.ntmps31
  go_wp2_with (first | (refine Lib.wpList_append_own_string w rfl (.tmp 8) (.tmp 9) 31 9 rfl (B + 1) 5 i0 Tryz.underlying31 Tryz.underlying9 hi0 hz0 hz1 hz2 v l.length (bv l) rfl HR.out s rfl (by unfold maxLen; omega) (by omega) (by omega) ?_; intro v' w1 hown1 hgrow1 _; obtain ⟨sa, sn, sm, rfl⟩ := own_slice hown1; have HOW := Lib.hid (And.intro hown1 hgrow1); have q15 := (hgrow1.cell_far ⟨B, 15, none⟩ hBs HN.out).trans hc; have qf := (hgrow1.frozen_far ⟨B, 15, none⟩ hBs HN.out).trans hf; clear hown1 hgrow1) | fail)
  refine bodyPost_end (v := .tuple #[]) (by simp [results, Tryz.results31, go_sem]) rfl ?_
  have hfin := css_app (l2 := s.data.toList) HO.out hc HR.out HOW.out.2 (n := l.length + s.size) (by rw [List.length_append, bs_len]) (xs := bv l ++ Lib.strCells s) (by rw [bv_append]; rfl) HOW.out.1
  exact ⟨rfl, hfin.1, hfin.2 w (Bel.refl _ _)⟩

set_option maxHeartbeats 2000000 in
set_option maxRecDepth 100000 in
/-- printIndent. -/
theorem indent_any (B : Nat) (mn : Bool) (ft : Nat) (l : List UInt8) (z : Int) (w : World) (h : Css B mn ft l w) (hz : -2147483648 ≤ z) (hz2 : z ≤ 2147483647) (hl : l.length ≤ 70368744177664) :
    Calls Tryz.prog 30 #[.pointer (some ⟨B, 0, none⟩), .int .i32 z] w fun e w' => e = .returned (.tuple #[]) ∧ Hid (Css B mn ft (l ++ List.replicate (2 * z.toNat) 32) w') ∧ Hid (Bel B w w') := by
  obtain ⟨i0, hi0, hz0, hz1, hz2'⟩ := info_parts info5
  have c3 := h.1.1.1
  have HC := Lib.hid h
  clear h
  go_enter Tryz.func30, Tryz.ntmps30
  go_wp2_with fail
  go_loopw [5] (fun i wr => ∃ k : Nat, k ≤ z.toNat ∧ i = .int .i64 k ∧ Hid (Css B mn ft (l ++ List.replicate (2 * k) 32) wr) ∧ Hid (Bel B w wr)) (fun i _ => z.toNat - (intOf i).toNat)
  case atStart => exact ⟨0, Nat.zero_le _, rfl, by show Css _ _ _ _ _; simpa using HC.out, Bel.refl _ _⟩
  case round =>
    obtain ⟨k, hk, rfl, hr, hb⟩ := hrel
    by_cases hlt : k < z.toNat
    · have hk1 : (k : Int) < z := by omega
      have hBs := hr.out.lt
      obtain ⟨ho, v, hc, hrow⟩ := hr.out
      have hf := ho.2.2.2
      have HO := Lib.hid ho
      have HR := Lib.hid hrow
      have HN := Lib.hid (own_ne hrow (Nat.lt_succ_self B))
      obtain ⟨ll, ell⟩ : ∃ ll, ll = l ++ List.replicate (2 * k) (32 : UInt8) := ⟨_, rfl⟩
      have hll : ll.length ≤ 80000000000000 := by
        rw [ell, List.length_append, List.length_replicate]; omega
      rw [← ell] at HR
      have HL := Lib.hid ell
      clear ell ho hrow
      go_wp2_with (first | (refine Lib.wpList_append_own_string wr rfl (.tmp 39) (.const (.string ⟨#[32, 32]⟩)) 31 9 rfl (B + 1) 5 i0 Tryz.underlying31 Tryz.underlying9 hi0 hz0 hz1 hz2' v ll.length (bv ll) rfl HR.out ⟨#[32, 32]⟩ rfl (by unfold maxLen; show ll.length + 2 ≤ _; omega) (by show ll.length + 2 ≤ _; omega) (by omega) ?_; intro v' w1 hown1 hgrow1 _; obtain ⟨sa, sn, sm, rfl⟩ := own_slice hown1; have HOW := Lib.hid (And.intro hown1 hgrow1); have q15 := (hgrow1.cell_far ⟨B, 15, none⟩ hBs HN.out).trans hc; have qf := (hgrow1.frozen_far ⟨B, 15, none⟩ hBs HN.out).trans hf; clear hown1 hgrow1) | fail)
      go_roundw
      case rel =>
        have hfin := css_app (l2 := [32, 32]) HO.out hc HR.out HOW.out.2 (n := ll.length + 2) (by rw [List.length_append]; rfl) (xs := bv ll ++ Lib.strCells ⟨#[32, 32]⟩) (by rw [bv_append]; rfl) HOW.out.1
        refine ⟨k + 1, by omega, by go_num, ?_, hfin.2 w hb.out⟩
        show Css _ _ _ _ _
        have e : l ++ List.replicate (2 * (k + 1)) (32 : UInt8) = ll ++ [32, 32] := by
          rw [HL.out, Nat.mul_add, Nat.mul_one, ← List.replicate_append_replicate, List.append_assoc]; rfl
        rw [e]
        exact hfin.1
      case measure => simp [intOf]; omega
    · obtain rfl : k = z.toNat := by omega
      have hk1 : ¬ ((z.toNat : Int) < z) := by omega
      go_wp2_with fail
      refine bodyPost_end (v := .tuple #[]) (by simp [results, Tryz.results30, go_sem]) rfl ?_
      exact ⟨rfl, hr, hb⟩

end Go.Proofs.YtiplakadjkimmabGreatFmt
