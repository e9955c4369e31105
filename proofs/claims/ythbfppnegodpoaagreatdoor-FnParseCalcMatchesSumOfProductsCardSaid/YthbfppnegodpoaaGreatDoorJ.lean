/-
  strconv.ParseFloat on the text x: an error.
-/
import Derived.Test.YthbfppnegodpoaaGreatDoorG
import Derived.Test.YthbfppnegodpoaaGreatDoorL
import Derived.Lib.UnsafeStr
import Derived.Lib.BufferWrite
import Derived.Deep.RegionWith
namespace Go.Proofs.YthbfppnegodpoaaGreatDoor
open Go.RowKit Go.Deep Go.PlainAid

def txX : ByteArray := ⟨#[120]⟩

set_option maxHeartbeats 4000000 in
set_option maxRecDepth 100000 in
theorem read_x (w : World) : Calls Tryz.prog 67 #[.string txX] w fun e w' => e = .returned (.tuple #[.int .u64 0, .int .i64 0, .bool false, .bool false, .bool false, .int .i64 0, .bool false]) ∧ w = w' := by
  have hb : bt txX 0 = 120 := by decide
  have hg := get_bt txX
  have hs : txX.size = 1 := rfl
  have hne : ¬ txX = ByteArray.empty := by decide
  go_enter Tryz.func67, Tryz.ntmps67
  go_wp2_with fail
  go_step3
  go_wp2_with fail
  go_step3
  go_wp2_with fail
  refine wp_loop_rounds 1 ?_
  rw [rounds_succ]
  go_wp2_with fail
  rw [Exit.noGoto_ret]
  refine bodyPost_ret (v := .tuple #[.int .u64 0, .int .i64 0, .bool false, .bool false, .bool false, .int .i64 0, .bool false]) (by simp [results, Tryz.results67, go_sem]) rfl ⟨rfl, rfl⟩

set_option maxHeartbeats 4000000 in
set_option maxRecDepth 100000 in
theorem special_x (w : World) : Calls Tryz.prog 66 #[.string txX] w fun e w' => e = .returned (.tuple #[.float .f64 0, .int .i64 0, .bool false]) ∧ w = w' := by
  have hb : bt txX 0 = 120 := by decide
  have hg := get_bt txX
  have hs : txX.size = 1 := rfl
  have hne : ¬ txX = ByteArray.empty := by decide
  go_enter Tryz.func66, Tryz.ntmps66
  go_wp2_with fail
  go_ret3
  exact ⟨rfl, rfl⟩

set_option maxHeartbeats 4000000 in
set_option maxRecDepth 100000 in
theorem atof_x (w : World) : Calls Tryz.prog 62 #[.string txX] w fun e w' => e = .returned (.tuple #[.float .f64 0, .int .i64 0, .iface 119 (.int .i64 2)]) ∧ w = w' := by
  have HS := Lib.hid (special_x w)
  have HR := Lib.hid (read_x w)
  go_enter Tryz.func62, Tryz.ntmps62
  go_wp2_with fail
  refine HS.out.mono ?_
  rintro e w' ⟨rfl, rfl⟩
  go_wp2_with fail
  refine HR.out.mono ?_
  rintro e w' ⟨rfl, rfl⟩
  go_wp2_with fail
  go_ret3
  exact ⟨rfl, rfl⟩

set_option maxRecDepth 100000 in
theorem pf56_x (w : World) : Calls Tryz.prog 56 #[.string txX, .int .i64 64] w fun e w' => e = .returned (.tuple #[.float .f64 0, .int .i64 0, .iface 119 (.int .i64 2)]) ∧ w = w' := by
  have H := Lib.hid (atof_x w)
  go_enter Tryz.func56, Tryz.ntmps56
  go_wp2_with fail
  refine H.out.mono ?_
  rintro e w' ⟨rfl, rfl⟩
  go_wp2_with fail
  go_ret3
  exact ⟨rfl, rfl⟩

set_option maxRecDepth 100000 in
theorem pf50_x (w : World) : Calls Tryz.prog 50 #[.string txX, .int .i64 64] w fun e w' => e = .returned (.tuple #[.float .f64 0, .iface 119 (.int .i64 2)]) ∧ w = w' := by
  have H := Lib.hid (pf56_x w)
  have hs : txX.size = 1 := rfl
  go_enter Tryz.func50, Tryz.ntmps50
  go_wp2_with fail
  refine H.out.mono ?_
  rintro e w' ⟨rfl, rfl⟩
  go_wp2_with fail
  go_ret2
  exact ⟨rfl, rfl⟩

theorem info5 : ∃ i, Tryz.prog.info? 5 = some i ∧ i.zero = some (.int .u8 0) ∧ i.size = 1 ∧ i.bytes = 1 := by
  have h : (Tryz.prog.info? 5).map (fun i => (i.zero, i.size, i.bytes)) = some (some (.int .u8 0), 1, 1) := by kernel_rfl
  obtain ⟨i, hi, hz⟩ := Option.map_eq_some_iff.1 h
  simp only [Prod.mk.injEq] at hz
  exact ⟨i, hi, hz⟩

set_option maxHeartbeats 4000000 in
set_option maxRecDepth 100000 in
/-- internal/stringslite.Clone: the same text. (The walk is the shelf's own, turned to this program's numbers.) -/
theorem clone_any (s : ByteArray) (w : World) (h0 : s.size ≠ 0) (hlim : s.size ≤ 281474976710656) :
    Calls Tryz.prog 63 #[.string s] w fun e w' => e = .returned (.string s) ∧ Below w.heap.size w w' := by
  obtain ⟨i0, hi, hz0, hz1, hz2⟩ := info5
  have hinfo : (Tryz.prog.info? 5).map (·.size) = some 1 := by rw [hi]; simp [hz1]
  have hco : Tryz.prog.cellsOf 5 = 1 := by simp [Program.cellsOf, hi, hz1]
  obtain ⟨M, hM⟩ : ∃ M, M = madeCells (Value.int .u8 0).cells (((s.size : Nat) : Int).toNat * i0.size) := ⟨_, rfl⟩
  have hMs : M.size = s.size := by rw [hM, size_madeCells, hz1]; simp
  have hmk : ∀ W : World, (Instr.makeSlice 68 (.int .i64 (s.size : Int)) (.int .i64 (s.size : Int))).run Tryz.prog W = .ok (.slice (some ⟨W.heap.size, 0, none⟩) s.size s.size) (W.alloc (.cells M 5)) := fun W => by
    have h := run_make (P := Tryz.prog) W 68 5 i0 (.int .u8 0) Tryz.underlying68 hi hz0 .i64 .i64 (s.size : Int) (s.size : Int) (by omega) (by omega) (by rw [hz2]; omega) (by omega)
    rw [← hM] at h
    simpa using h
  clear hM
  have hcp := Lib.run_copy_row_string (P := Tryz.prog) (w.alloc (.cells M 5)) 68 9 3 5 w.heap.size 0 s.size s.size s M 5 Tryz.underlying68 hinfo (heap_alloc_new w _) (Nat.le_refl _) (by omega)
  obtain ⟨Y, hY⟩ : ∃ Y, Y = (M.toList.take 0 ++ Lib.byteCells s.data.toList ++ M.toList.drop (0 + s.size)).toArray := ⟨_, rfl⟩
  rw [← hY] at hcp
  have hYl : Y.toList = Lib.byteCells s.data.toList := by
    rw [hY, List.toList_toArray, List.take_zero, List.nil_append, List.drop_of_length_le (by rw [Array.length_toList]; omega), List.append_nil]
  have hYs : Y.size = s.size := by rw [← Array.length_toList, hYl, Lib.byteCells_length, ← Lib.size_eq]
  have hgY : ((w.alloc (.cells M 5)).setRow w.heap.size Y).heap[w.heap.size]? = some (.cells Y 5 (0, 0)) := setRow_heap _ _ M _ 5 (0, 0) (heap_alloc_new w _)
  have hne : s.data.toList ≠ [] := fun e => h0 (by rw [Lib.size_eq, e]; rfl)
  have hUS := Lib.run_unsafeString_row (P := Tryz.prog) ((w.alloc (.cells M 5)).setRow w.heap.size Y) 164 3 9 5 Tryz.underlying164 hco w.heap.size Y.size (by unfold World.shape?; rw [hgY]) s.data.toList hne (by rw [← Lib.size_eq]; omega) (by rw [← Lib.size_eq]; omega)
    (fun j x hx => Lib.cells_of_row hgY Y.size j _ (by rw [List.take_of_length_le (by rw [Array.length_toList]; exact Nat.le_refl _), hYl]; simp [Lib.byteCells, hx]))
  rw [← Lib.size_eq] at hUS
  clear hY
  go_enter Tryz.func63, Tryz.ntmps63
  go_wp2
  go_ret
  have hb1 : Below w.heap.size w (w.alloc (.cells M 5)) := (Below.refl _ w).alloc (Nat.le_refl _) _
  have hb2 : Below w.heap.size (w.alloc (.cells M 5)) ((w.alloc (.cells M 5)).setRow w.heap.size Y) := ⟨rfl, rfl, rfl, by simp, fun k hk => setRow_other _ _ _ _ (by omega)⟩
  exact ⟨rfl, Lib.below_freeze (hb1.trans hb2) (p := ⟨w.heap.size, 0, none⟩) (Nat.le_refl _) _⟩

set_option maxHeartbeats 4000000 in
set_option maxRecDepth 100000 in
theorem syntax_any (f s : ByteArray) (w : World) (h0 : s.size ≠ 0) (hlim : s.size ≤ 281474976710656) (hg6 : ∃ u v, w.cell? ⟨6, 0, none⟩ = some (.iface u v)) :
    Calls Tryz.prog 57 #[.string f, .string s] w fun e w' => ∃ y, e = .returned (.pointer y) ∧ Below w.heap.size w w' := by
  obtain ⟨u6, v6, c6⟩ := hg6
  have HC := Lib.hid (fun W => clone_any s W h0 hlim)
  have HB := Lib.hid (Below.refl w.heap.size w)
  clear h0 hlim
  go_enter Tryz.func57, Tryz.ntmps57
  go_wp2_with fail
  go_region_with (go_at_call 63; refine (HC.out _).mono ?_; rintro e w' ⟨rfl, hb⟩; have c6' := cell_later hb (show World.cell? (World.drew w) _ = _ from c6); have HB2 := Lib.hid (show Below w.heap.size w w' from (Below.refl _ _).drew.trans hb); clear hb)
  all_goals (try go_wp2_with fail)
  all_goals go_ret
  all_goals exact ⟨_, rfl, HB2.out.alloc HB2.out.size _⟩

set_option maxRecDepth 100000 in
theorem pf41_x (w : World) (hg6 : ∃ u v, w.cell? ⟨6, 0, none⟩ = some (.iface u v)) : Calls Tryz.prog 41 #[.string txX, .int .i64 64] w fun e w' => ∃ x u y, e = .returned (.tuple #[.float .f64 x, .iface u y]) ∧ Below w.heap.size w w' := by
  have H := Lib.hid (pf50_x w)
  have hs : txX.size = 1 := rfl
  have HG := Lib.hid (syntax_any ⟨#[80, 97, 114, 115, 101, 70, 108, 111, 97, 116]⟩ txX w (by decide) (by decide) hg6)
  clear hg6
  have heq : ∀ w, (binOp .eql 86 (.iface 119 (.int .i64 2)) (.iface 119 (.int .i64 2))).run Tryz.prog w = .ok (.bool true) w := fun w => by kernel_rfl
  go_enter Tryz.func41, Tryz.ntmps41
  go_wp2_with fail
  refine H.out.mono ?_
  rintro e w' ⟨rfl, rfl⟩
  go_wp2_with (first | (go_at_call 57; refine HG.out.mono ?_; rintro e w' ⟨y, rfl, hb⟩) | go_in)
  go_ret2
  exact ⟨_, _, _, rfl, hb⟩

/-- What is known of the listed variables. -/
structure Env (w : World) : Prop where
  tabs : Tabs w
  fold : Fold w
  syn : ∃ u v, w.cell? ⟨6, 0, none⟩ = some (.iface u v)
theorem Env.below {w w' : World} (h : Env w) (hb : Below w.heap.size w w') : Env w' :=
  ⟨h.tabs.below hb, h.fold.below hb, let ⟨u, v, c⟩ := h.syn; ⟨u, v, cell_later hb c⟩⟩
end Go.Proofs.YthbfppnegodpoaaGreatDoor
