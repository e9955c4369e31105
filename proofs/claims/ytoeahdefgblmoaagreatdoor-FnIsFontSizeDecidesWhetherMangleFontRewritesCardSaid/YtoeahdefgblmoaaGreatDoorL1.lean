/-
  strconv.ParseFloat: whatever the text, it ends with a float and an error or none.
-/
import Derived.Test.YtoeahdefgblmoaaGreatDoorRV
import Derived.Lib.UnsafeStr
import Derived.Lib.BufferWrite
import Derived.Deep.RegionWith
namespace Go.Proofs.YtoeahdefgblmoaaGreatDoor
open Go.RowKit Go.Deep Go.PlainAid Go.Maps Go.Sort

theorem byte5 : ∃ i, Tryz.prog.info? 5 = some i ∧ i.zero = some (.int .u8 0) ∧ i.size = 1 ∧ i.bytes = 1 := by
  have h : (Tryz.prog.info? 5).map (fun i => (i.zero, i.size, i.bytes)) = some (some (.int .u8 0), 1, 1) := by kernel_rfl
  obtain ⟨i, hi, hz⟩ := Option.map_eq_some_iff.1 h
  simp only [Prod.mk.injEq] at hz
  exact ⟨i, hi, hz⟩

set_option maxHeartbeats 4000000 in
set_option maxRecDepth 100000 in
/-- internal/stringslite.Clone: the same text. (The walk is the shelf's own, turned to this program's numbers.) -/
theorem copy_some (s : ByteArray) (w : World) (h0 : s.size ≠ 0) (hlim : s.size ≤ 281474976710656) :
    Calls Tryz.prog 55 #[.string s] w fun e w' => e = .returned (.string s) ∧ Below w.heap.size w w' := by
  obtain ⟨i0, hi, hz0, hz1, hz2⟩ := byte5
  have hinfo : (Tryz.prog.info? 5).map (·.size) = some 1 := by rw [hi]; simp [hz1]
  have hco : Tryz.prog.cellsOf 5 = 1 := by simp [Program.cellsOf, hi, hz1]
  obtain ⟨M, hM⟩ : ∃ M, M = madeCells (Value.int .u8 0).cells (((s.size : Nat) : Int).toNat * i0.size) := ⟨_, rfl⟩
  have hMs : M.size = s.size := by rw [hM, size_madeCells, hz1]; simp
  have hmk : ∀ W : World, (Instr.makeSlice 36 (.int .i64 (s.size : Int)) (.int .i64 (s.size : Int))).run Tryz.prog W = .ok (.slice (some ⟨W.heap.size, 0, none⟩) s.size s.size) (W.alloc (.cells M 5)) := fun W => by
    have h := run_make (P := Tryz.prog) W 36 5 i0 (.int .u8 0) Tryz.underlying36 hi hz0 .i64 .i64 (s.size : Int) (s.size : Int) (by omega) (by omega) (by rw [hz2]; omega) (by omega)
    rw [← hM] at h
    simpa using h
  clear hM
  have hcp := Lib.run_copy_row_string (P := Tryz.prog) (w.alloc (.cells M 5)) 36 9 3 5 w.heap.size 0 s.size s.size s M 5 Tryz.underlying36 hinfo (heap_alloc_new w _) (Nat.le_refl _) (by omega)
  obtain ⟨Y, hY⟩ : ∃ Y, Y = (M.toList.take 0 ++ Lib.byteCells s.data.toList ++ M.toList.drop (0 + s.size)).toArray := ⟨_, rfl⟩
  rw [← hY] at hcp
  have hYl : Y.toList = Lib.byteCells s.data.toList := by
    rw [hY, List.toList_toArray, List.take_zero, List.nil_append, List.drop_of_length_le (by rw [Array.length_toList]; omega), List.append_nil]
  have hYs : Y.size = s.size := by rw [← Array.length_toList, hYl, Lib.byteCells_length, ← Lib.size_eq]
  have hgY : ((w.alloc (.cells M 5)).setRow w.heap.size Y).heap[w.heap.size]? = some (.cells Y 5 (0, 0)) := setRow_heap _ _ M _ 5 (0, 0) (heap_alloc_new w _)
  have hne : s.data.toList ≠ [] := fun e => h0 (by rw [Lib.size_eq, e]; rfl)
  have hUS := Lib.run_unsafeString_row (P := Tryz.prog) ((w.alloc (.cells M 5)).setRow w.heap.size Y) 113 3 9 5 Tryz.underlying113 hco w.heap.size Y.size (by unfold World.shape?; rw [hgY]) s.data.toList hne (by rw [← Lib.size_eq]; omega) (by rw [← Lib.size_eq]; omega)
    (fun j x hx => Lib.cells_of_row hgY Y.size j _ (by rw [List.take_of_length_le (by rw [Array.length_toList]; exact Nat.le_refl _), hYl]; simp [Lib.byteCells, hx]))
  rw [← Lib.size_eq] at hUS
  clear hY
  go_enter Tryz.func55, Tryz.ntmps55
  go_wp2
  go_ret
  have hb1 : Below w.heap.size w (w.alloc (.cells M 5)) := (Below.refl _ w).alloc (Nat.le_refl _) _
  have hb2 : Below w.heap.size (w.alloc (.cells M 5)) ((w.alloc (.cells M 5)).setRow w.heap.size Y) := ⟨rfl, rfl, rfl, by simp, fun k hk => setRow_other _ _ _ _ (by omega)⟩
  exact ⟨rfl, Lib.below_freeze (hb1.trans hb2) (p := ⟨w.heap.size, 0, none⟩) (Nat.le_refl _) _⟩

def isStr (v : Value) : Prop := ∃ s, v = .string s
theorem copy_any (s : ByteArray) (w : World) (hlim : s.size ≤ 281474976710656) : Calls Tryz.prog 55 #[.string s] w (GivesB isStr w) := by
  by_cases h0 : s.size = 0
  · have he : s = ByteArray.empty := by
      apply ByteArray.ext
      apply Array.eq_empty_of_size_eq_zero
      exact h0
    subst he
    go_enter Tryz.func55, Tryz.ntmps55
    go_wp2
    go_ret
    exact ⟨_, rfl, ⟨_, rfl⟩, Below.refl _ _⟩
  · refine (copy_some s w h0 hlim).mono ?_
    rintro e w' ⟨rfl, hb⟩
    exact ⟨_, rfl, ⟨_, rfl⟩, hb⟩

def isPt (v : Value) : Prop := ∃ p, v = .pointer p
set_option maxHeartbeats 4000000 in
set_option maxRecDepth 100000 in
theorem syn_any (f s : ByteArray) (w : World) (hlim : s.size ≤ 281474976710656) (hg : ∃ u v, w.cell? ⟨3, 0, none⟩ = some (.iface u v)) :
    Calls Tryz.prog 42 #[.string f, .string s] w (GivesB isPt w) := by
  obtain ⟨u6, v6, c6⟩ := hg
  have HC := Lib.hid (fun W => copy_any s W hlim)
  have HB := Lib.hid (Below.refl w.heap.size w)
  clear hlim
  go_enter Tryz.func42, Tryz.ntmps42
  go_wp2_with fail
  go_region_with (go_at_call 55; refine (HC.out _).mono ?_; rintro e w' ⟨v, rfl, ⟨q, rfl⟩, hb⟩; have c6' := cell_later hb (show World.cell? (World.drew w) _ = _ from c6); have HB2 := Lib.hid (show Below w.heap.size w w' from (Below.refl _ _).drew.trans hb); clear hb)
  all_goals (try go_wp2_with fail)
  all_goals go_ret
  all_goals exact ⟨_, rfl, ⟨_, rfl⟩, HB2.out.alloc HB2.out.size _⟩
set_option maxHeartbeats 4000000 in
set_option maxRecDepth 100000 in
theorem rng_any (f s : ByteArray) (w : World) (hlim : s.size ≤ 281474976710656) (hg : ∃ u v, w.cell? ⟨4, 0, none⟩ = some (.iface u v)) :
    Calls Tryz.prog 43 #[.string f, .string s] w (GivesB isPt w) := by
  obtain ⟨u6, v6, c6⟩ := hg
  have HC := Lib.hid (fun W => copy_any s W hlim)
  have HB := Lib.hid (Below.refl w.heap.size w)
  clear hlim
  go_enter Tryz.func43, Tryz.ntmps43
  go_wp2_with fail
  go_region_with (go_at_call 55; refine (HC.out _).mono ?_; rintro e w' ⟨v, rfl, ⟨q, rfl⟩, hb⟩; have c6' := cell_later hb (show World.cell? (World.drew w) _ = _ from c6); have HB2 := Lib.hid (show Below w.heap.size w w' from (Below.refl _ _).drew.trans hb); clear hb)
  all_goals (try go_wp2_with fail)
  all_goals go_ret
  all_goals exact ⟨_, rfl, ⟨_, rfl⟩, HB2.out.alloc HB2.out.size _⟩

/-- A float; no error or one. -/
def isFW (v : Value) : Prop := (∃ x, v = .tuple #[.float .f64 x, .nilIface]) ∨ ∃ x t y, v = .tuple #[.float .f64 x, .iface t y]
set_option maxHeartbeats 4000000 in
set_option maxRecDepth 100000 in
theorem parse_any (s : ByteArray) (w : World) (hs : s.size ≤ 1048576) (hT : PF w) (h3 : ∃ u v, w.cell? ⟨3, 0, none⟩ = some (.iface u v)) (h4 : ∃ u v, w.cell? ⟨4, 0, none⟩ = some (.iface u v)) :
    Calls Tryz.prog 22 #[.string s, .int .i64 64] w (GivesB isFW w) := by
  have H := Lib.hid (pf31_any s w hs hT)
  have HG := Lib.hid (And.intro h3 h4)
  have e22 : ∀ w, (binOp .eql 93 (.iface 122 (.int .i64 2)) (.iface 122 (.int .i64 2))).run Tryz.prog w = .ok (.bool true) w := fun w => by kernel_rfl
  have e12 : ∀ w, (binOp .eql 93 (.iface 122 (.int .i64 1)) (.iface 122 (.int .i64 2))).run Tryz.prog w = .ok (.bool false) w := fun w => by kernel_rfl
  have e11 : ∀ w, (binOp .eql 93 (.iface 122 (.int .i64 1)) (.iface 122 (.int .i64 1))).run Tryz.prog w = .ok (.bool true) w := fun w => by kernel_rfl
  clear hT h3 h4
  go_enter Tryz.func22, Tryz.ntmps22
  go_wp2_with fail
  refine H.out.mono ?_
  rintro e w1 ⟨v, rfl, ⟨x, u, rfl, rfl | rfl | rfl⟩, hb1⟩
  · go_wp2_with fail
    go_ret2
    exact ⟨_, rfl, .inl ⟨_, rfl⟩, hb1⟩
  · obtain ⟨u4, v4, c4⟩ := HG.out.2
    have HG4 : Hid (∃ u v, w1.cell? ⟨4, 0, none⟩ = some (.iface u v)) := Lib.hid ⟨_, _, cell_later hb1 c4⟩
    have HB1 := Lib.hid hb1
    clear hb1 c4
    go_wp2_with (first | (go_at_call 43; refine (rng_any _ s w1 (by omega) HG4.out).mono ?_; rintro e w2 ⟨v, rfl, ⟨q, rfl⟩, hb2⟩) | go_in)
    go_ret2
    exact ⟨_, rfl, .inr ⟨_, _, _, rfl⟩, HB1.out.trans (hb2.mono HB1.out.size)⟩
  · obtain ⟨u4, v4, c4⟩ := HG.out.1
    have HG4 : Hid (∃ u v, w1.cell? ⟨3, 0, none⟩ = some (.iface u v)) := Lib.hid ⟨_, _, cell_later hb1 c4⟩
    have HB1 := Lib.hid hb1
    clear hb1 c4
    go_wp2_with (first | (go_at_call 42; refine (syn_any _ s w1 (by omega) HG4.out).mono ?_; rintro e w2 ⟨v, rfl, ⟨q, rfl⟩, hb2⟩) | go_in)
    go_ret2
    exact ⟨_, rfl, .inr ⟨_, _, _, rfl⟩, HB1.out.trans (hb2.mono HB1.out.size)⟩
end Go.Proofs.YtoeahdefgblmoaaGreatDoor
