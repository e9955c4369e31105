/-
  The conversion of any calc tree into plain data: sums, products, negations, inversions; whole.
-/
import Derived.Test.YthbfppnegodpoaaGreatDoorK6
namespace Go.Proofs.YthbfppnegodpoaaGreatDoor
open Go.RowKit Go.Deep Go.PlainAid

theorem conv_fin {w w3 : World} {m : MV} {t : CT} (hb : Below w.heap.size w w3) (hm : Mir w3 (w.heap.size < ·) m t) : Mir (put8 w3 w.heap.size 0 m) (w.heap.size ≤ ·) m t ∧ Below w.heap.size w (put8 w3 w.heap.size 0 m) :=
  ⟨(hm.keep (put8_keeps w3 w.heap.size 0 m (w.heap.size < ·) (Nat.lt_irrefl _))).weaken (fun _ _ h => Nat.le_of_lt h), put8_below hb w.heap.size 0 m (Nat.le_refl _)⟩

set_option maxRecDepth 100000 in
theorem build_one (tag : Int) (un : ByteArray) (nm : Nat) (kd : Int) (tx : ByteArray) (ws : Int) (bad : Bool) (a : Option Addr) (n c : Nat) (W : World) :
    (Instr.buildSlice 46 1 #[(0, .agg #[.int .i64 tag, .string un, .float .f64 nm, .int .u8 kd, .string tx, .int .u8 ws, .bool bad, .slice a n c])]).run Tryz.prog W = .ok (.slice (some ⟨W.heap.size, 0, none⟩) 1 1) (W.alloc (.cells #[.int .i64 tag, .string un, .float .f64 nm, .int .u8 kd, .string tx, .int .u8 ws, .bool bad, .slice a n c] 48)) := by
  simp [go_sem, Instr.buildSlice, run_underlying Tryz.underlying46]

set_option maxHeartbeats 4000000 in
set_option maxRecDepth 100000 in
theorem tree_sum (w : World) (b r : Nat) (l : List CT) (vs : Nat → Value) (h0 : 0 < l.length ∧ l.length ≤ 8192) (c0 : w.cell? ⟨b, 0, none⟩ = some (.slice (some ⟨r, 0, none⟩) l.length l.length)) (cs : ∀ i, i < l.length → w.cell? ⟨r, i * 2, none⟩ = some (vs i))
    (h33 : ∀ i, i < l.length → ∀ W, Below w.heap.size w W → Calls Tryz.prog 33 #[vs i] W (Conv (l.getD i dT) W)) : Calls Tryz.prog 33 #[.iface 102 (.pointer (some ⟨b, 0, none⟩))] w (Conv (.sum l) w) := by
  have n34 := run_assert_other (P := Tryz.prog) (.pointer (some ⟨b, 0, none⟩)) 70 34 102 73 Tryz.underlying34 (by decide) (fun _ => by kernel_rfl)
  have n54 := run_assert_other (P := Tryz.prog) (.pointer (some ⟨b, 0, none⟩)) 70 54 102 80 Tryz.underlying54 (by decide) (fun _ => by kernel_rfl)
  have ha := run_assert_same (P := Tryz.prog) (.pointer (some ⟨b, 0, none⟩)) 70 102 99 Tryz.underlying102
  have hbl := World.block_lt_of_cell? _ _ c0
  have HC := Lib.hid cs
  have H33 := Lib.hid h33
  clear cs h33
  go_enter Tryz.func33, Tryz.ntmps33
  go_wp2_with fail
  have hb1 : Below w.heap.size w (w.alloc (.cells zero48 48)) := (Below.refl _ _).alloc (Nat.le_refl _) _
  refine (list_any (w.alloc (.cells zero48 48)) r l.length vs (fun i => l.getD i dT) h0.2 (fun i hi => cell_later hb1 (HC.out i hi)) (fun i hi W hW => H33.out i hi W (hb1.trans (hW.mono hb1.size)))).mono ?_
  rintro e w3 ⟨q, rfl, hq, hb3, hk⟩
  have hb : Below w.heap.size w w3 := hb1.trans (hb3.mono hb1.size)
  rw [World.size_alloc] at hq
  obtain ⟨ms, hms⟩ := hk.at (Nat.le_refl _)
  have hm : Mir w3 (w.heap.size < ·) ⟨3, ⟨#[]⟩, 0, 0, ⟨#[]⟩, 0, false, .slice (some ⟨q, 0, none⟩) l.length l.length⟩ (.sum l) :=
    .sum q l.length l ms h0 (by omega) (fun i hi => (hms i hi).1) (fun i hi => (hms i hi).2.weaken (fun b _ h => by omega))
  have hf := conv_fin hb hm
  unfold put8 at hf
  simp only [Nat.zero_add] at hf
  have HF := Lib.hid hf
  unfold zero48 at hb3
  have r0 : w3.cell? ⟨w.heap.size, 0, none⟩ = some (.int .i64 0) := cell_later hb3 (by simp [go_sem])
  have r1 : w3.cell? ⟨w.heap.size, 1, none⟩ = some (.string ⟨#[]⟩) := cell_later hb3 (by simp [go_sem])
  have r2 : w3.cell? ⟨w.heap.size, 2, none⟩ = some (.float .f64 0) := cell_later hb3 (by simp [go_sem])
  have r3 : w3.cell? ⟨w.heap.size, 3, none⟩ = some (.int .u8 0) := cell_later hb3 (by simp [go_sem])
  have r4 : w3.cell? ⟨w.heap.size, 4, none⟩ = some (.string ⟨#[]⟩) := cell_later hb3 (by simp [go_sem])
  have r5 : w3.cell? ⟨w.heap.size, 5, none⟩ = some (.int .u8 0) := cell_later hb3 (by simp [go_sem])
  have r6 : w3.cell? ⟨w.heap.size, 6, none⟩ = some (.bool false) := cell_later hb3 (by simp [go_sem])
  have r7 : w3.cell? ⟨w.heap.size, 7, none⟩ = some (.slice none 0 0) := cell_later hb3 (by simp [go_sem])
  have rf : ∀ i, w3.frozen? ⟨w.heap.size, i, none⟩ = false := fun i => (Below.frozen hb3 (p := ⟨w.heap.size, i, none⟩) (by rw [World.size_alloc]; show w.heap.size < _; omega)).trans (by simp [go_sem])
  have rf0 := rf 0
  have rf1 := rf 1
  have rf2 := rf 2
  have rf3 := rf 3
  have rf4 := rf 4
  have rf5 := rf 5
  have rf6 := rf 6
  have rf7 := rf 7
  clear rf hb3 hb hb1 hk hms hm hf
  go_wp2_with fail
  refine bodyPost_ret (v := MV.val ⟨3, ⟨#[]⟩, 0, 0, ⟨#[]⟩, 0, false, .slice (some ⟨q, 0, none⟩) l.length l.length⟩) (by simp [results, Tryz.results33, go_sem, MV.val, *]) rfl ⟨_, rfl, HF.out.2, HF.out.1⟩

set_option maxHeartbeats 4000000 in
set_option maxRecDepth 100000 in
theorem tree_prod (w : World) (b r : Nat) (l : List CT) (vs : Nat → Value) (h0 : 0 < l.length ∧ l.length ≤ 8192) (c0 : w.cell? ⟨b, 0, none⟩ = some (.slice (some ⟨r, 0, none⟩) l.length l.length)) (cs : ∀ i, i < l.length → w.cell? ⟨r, i * 2, none⟩ = some (vs i))
    (h33 : ∀ i, i < l.length → ∀ W, Below w.heap.size w W → Calls Tryz.prog 33 #[vs i] W (Conv (l.getD i dT) W)) : Calls Tryz.prog 33 #[.iface 98 (.pointer (some ⟨b, 0, none⟩))] w (Conv (.prod l) w) := by
  have n34 := run_assert_other (P := Tryz.prog) (.pointer (some ⟨b, 0, none⟩)) 70 34 98 73 Tryz.underlying34 (by decide) (fun _ => by kernel_rfl)
  have n54 := run_assert_other (P := Tryz.prog) (.pointer (some ⟨b, 0, none⟩)) 70 54 98 80 Tryz.underlying54 (by decide) (fun _ => by kernel_rfl)
  have n102 := run_assert_other (P := Tryz.prog) (.pointer (some ⟨b, 0, none⟩)) 70 102 98 99 Tryz.underlying102 (by decide) (fun _ => by kernel_rfl)
  have ha := run_assert_same (P := Tryz.prog) (.pointer (some ⟨b, 0, none⟩)) 70 98 94 Tryz.underlying98
  have hbl := World.block_lt_of_cell? _ _ c0
  have HC := Lib.hid cs
  have H33 := Lib.hid h33
  clear cs h33
  go_enter Tryz.func33, Tryz.ntmps33
  go_wp2_with fail
  have hb1 : Below w.heap.size w (w.alloc (.cells zero48 48)) := (Below.refl _ _).alloc (Nat.le_refl _) _
  refine (list_any (w.alloc (.cells zero48 48)) r l.length vs (fun i => l.getD i dT) h0.2 (fun i hi => cell_later hb1 (HC.out i hi)) (fun i hi W hW => H33.out i hi W (hb1.trans (hW.mono hb1.size)))).mono ?_
  rintro e w3 ⟨q, rfl, hq, hb3, hk⟩
  have hb : Below w.heap.size w w3 := hb1.trans (hb3.mono hb1.size)
  rw [World.size_alloc] at hq
  obtain ⟨ms, hms⟩ := hk.at (Nat.le_refl _)
  have hm : Mir w3 (w.heap.size < ·) ⟨4, ⟨#[]⟩, 0, 0, ⟨#[]⟩, 0, false, .slice (some ⟨q, 0, none⟩) l.length l.length⟩ (.prod l) :=
    .prod q l.length l ms h0 (by omega) (fun i hi => (hms i hi).1) (fun i hi => (hms i hi).2.weaken (fun b _ h => by omega))
  have hf := conv_fin hb hm
  unfold put8 at hf
  simp only [Nat.zero_add] at hf
  have HF := Lib.hid hf
  unfold zero48 at hb3
  have r0 : w3.cell? ⟨w.heap.size, 0, none⟩ = some (.int .i64 0) := cell_later hb3 (by simp [go_sem])
  have r1 : w3.cell? ⟨w.heap.size, 1, none⟩ = some (.string ⟨#[]⟩) := cell_later hb3 (by simp [go_sem])
  have r2 : w3.cell? ⟨w.heap.size, 2, none⟩ = some (.float .f64 0) := cell_later hb3 (by simp [go_sem])
  have r3 : w3.cell? ⟨w.heap.size, 3, none⟩ = some (.int .u8 0) := cell_later hb3 (by simp [go_sem])
  have r4 : w3.cell? ⟨w.heap.size, 4, none⟩ = some (.string ⟨#[]⟩) := cell_later hb3 (by simp [go_sem])
  have r5 : w3.cell? ⟨w.heap.size, 5, none⟩ = some (.int .u8 0) := cell_later hb3 (by simp [go_sem])
  have r6 : w3.cell? ⟨w.heap.size, 6, none⟩ = some (.bool false) := cell_later hb3 (by simp [go_sem])
  have r7 : w3.cell? ⟨w.heap.size, 7, none⟩ = some (.slice none 0 0) := cell_later hb3 (by simp [go_sem])
  have rf : ∀ i, w3.frozen? ⟨w.heap.size, i, none⟩ = false := fun i => (Below.frozen hb3 (p := ⟨w.heap.size, i, none⟩) (by rw [World.size_alloc]; show w.heap.size < _; omega)).trans (by simp [go_sem])
  have rf0 := rf 0
  have rf1 := rf 1
  have rf2 := rf 2
  have rf3 := rf 3
  have rf4 := rf 4
  have rf5 := rf 5
  have rf6 := rf 6
  have rf7 := rf 7
  clear rf hb3 hb hb1 hk hms hm hf
  go_wp2_with fail
  refine bodyPost_ret (v := MV.val ⟨4, ⟨#[]⟩, 0, 0, ⟨#[]⟩, 0, false, .slice (some ⟨q, 0, none⟩) l.length l.length⟩) (by simp [results, Tryz.results33, go_sem, MV.val, *]) rfl ⟨_, rfl, HF.out.2, HF.out.1⟩

set_option maxHeartbeats 4000000 in
set_option maxRecDepth 100000 in
theorem tree_neg (w : World) (b : Nat) (v : Value) (t : CT) (c0 : w.cell? ⟨b, 0, none⟩ = some v)
    (h33 : ∀ W, Below w.heap.size w W → Calls Tryz.prog 33 #[v] W (Conv t W)) : Calls Tryz.prog 33 #[.iface 100 (.pointer (some ⟨b, 0, none⟩))] w (Conv (.neg t) w) := by
  have n34 := run_assert_other (P := Tryz.prog) (.pointer (some ⟨b, 0, none⟩)) 70 34 100 73 Tryz.underlying34 (by decide) (fun _ => by kernel_rfl)
  have n54 := run_assert_other (P := Tryz.prog) (.pointer (some ⟨b, 0, none⟩)) 70 54 100 80 Tryz.underlying54 (by decide) (fun _ => by kernel_rfl)
  have n102 := run_assert_other (P := Tryz.prog) (.pointer (some ⟨b, 0, none⟩)) 70 102 100 99 Tryz.underlying102 (by decide) (fun _ => by kernel_rfl)
  have n98 := run_assert_other (P := Tryz.prog) (.pointer (some ⟨b, 0, none⟩)) 70 98 100 94 Tryz.underlying98 (by decide) (fun _ => by kernel_rfl)
  have ha := run_assert_same (P := Tryz.prog) (.pointer (some ⟨b, 0, none⟩)) 70 100 101 Tryz.underlying100
  have hbl := World.block_lt_of_cell? _ _ c0
  have H33 := Lib.hid h33
  clear h33
  go_enter Tryz.func33, Tryz.ntmps33
  go_wp2_with fail
  have hb1 : Below w.heap.size w (w.alloc (.cells zero48 48)) := (Below.refl _ _).alloc (Nat.le_refl _) _
  refine (H33.out (w.alloc (.cells zero48 48)) hb1).mono ?_
  rintro e w3 ⟨m, rfl, hb3, hm⟩
  have hb : Below w.heap.size w w3 := hb1.trans (hb3.mono hb1.size)
  obtain ⟨ka, kn, kc, ek⟩ := hm.kids
  obtain ⟨tag, un, nm, kd, tx, ws, bad, kids⟩ := m
  simp only at ek
  subst ek
  have hmv : (MV.val ⟨tag, un, nm, kd, tx, ws, bad, .slice ka kn kc⟩) = .agg #[.int .i64 tag, .string un, .float .f64 nm, .int .u8 kd, .string tx, .int .u8 ws, .bool bad, .slice ka kn kc] := rfl
  obtain ⟨W4, eW4⟩ : ∃ W4, W4 = w3.alloc (.cells #[.int .i64 tag, .string un, .float .f64 nm, .int .u8 kd, .string tx, .int .u8 ws, .bool bad, .slice ka kn kc] 48) := ⟨_, rfl⟩
  have hb4 : Below w3.heap.size w3 W4 := by rw [eW4]; exact (Below.refl _ _).alloc (Nat.le_refl _) _
  have hz3 : w.heap.size + 1 ≤ w3.heap.size := by have := hb3.size; rw [World.size_alloc] at this; exact this
  have hm4 : Mir W4 (w.heap.size < ·) ⟨5, ⟨#[]⟩, 0, 0, ⟨#[]⟩, 0, false, .slice (some ⟨w3.heap.size, 0, none⟩) 1 1⟩ (.neg t) := by
    refine .neg w3.heap.size 1 ⟨tag, un, nm, kd, tx, ws, bad, .slice ka kn kc⟩ t (by omega) ?_ ((hm.weaken (D' := (w.heap.size < ·)) (fun b _ h => by rw [World.size_alloc] at h; omega)).keep (Keeps.below hb4))
    rw [eW4]
    exact ⟨by simp [go_sem], by simp [go_sem], by simp [go_sem], by simp [go_sem], by simp [go_sem], by simp [go_sem], by simp [go_sem], by simp [go_sem]⟩
  have hf := conv_fin (hb.trans (hb4.mono hb.size)) hm4
  unfold put8 at hf
  simp only [Nat.zero_add] at hf
  have HF := Lib.hid hf
  unfold zero48 at hb3
  have hb5 := hb3.trans (hb4.mono (by rw [World.size_alloc]; omega))
  have r0 : W4.cell? ⟨w.heap.size, 0, none⟩ = some (.int .i64 0) := cell_later hb5 (by simp [go_sem])
  have r1 : W4.cell? ⟨w.heap.size, 1, none⟩ = some (.string ⟨#[]⟩) := cell_later hb5 (by simp [go_sem])
  have r2 : W4.cell? ⟨w.heap.size, 2, none⟩ = some (.float .f64 0) := cell_later hb5 (by simp [go_sem])
  have r3 : W4.cell? ⟨w.heap.size, 3, none⟩ = some (.int .u8 0) := cell_later hb5 (by simp [go_sem])
  have r4 : W4.cell? ⟨w.heap.size, 4, none⟩ = some (.string ⟨#[]⟩) := cell_later hb5 (by simp [go_sem])
  have r5 : W4.cell? ⟨w.heap.size, 5, none⟩ = some (.int .u8 0) := cell_later hb5 (by simp [go_sem])
  have r6 : W4.cell? ⟨w.heap.size, 6, none⟩ = some (.bool false) := cell_later hb5 (by simp [go_sem])
  have r7 : W4.cell? ⟨w.heap.size, 7, none⟩ = some (.slice none 0 0) := cell_later hb5 (by simp [go_sem])
  have rf : ∀ i, W4.frozen? ⟨w.heap.size, i, none⟩ = false := fun i => (Below.frozen hb5 (p := ⟨w.heap.size, i, none⟩) (by rw [World.size_alloc]; show w.heap.size < _; omega)).trans (by simp [go_sem])
  have rf0 := rf 0
  have rf1 := rf 1
  have rf2 := rf 2
  have rf3 := rf 3
  have rf4 := rf 4
  have rf5 := rf 5
  have rf6 := rf 6
  have rf7 := rf 7
  clear rf hb3 hb5 hb hb1 hm hf hm4 hb4 hz3
  subst eW4
  go_wp2_with fail
  refine bodyPost_ret (v := MV.val ⟨5, ⟨#[]⟩, 0, 0, ⟨#[]⟩, 0, false, .slice (some ⟨w3.heap.size, 0, none⟩) 1 1⟩) (by simp [results, Tryz.results33, go_sem, MV.val, *]) rfl ⟨_, rfl, HF.out.2, HF.out.1⟩

set_option maxHeartbeats 4000000 in
set_option maxRecDepth 100000 in
theorem tree_inv (w : World) (b : Nat) (v : Value) (t : CT) (c0 : w.cell? ⟨b, 0, none⟩ = some v)
    (h33 : ∀ W, Below w.heap.size w W → Calls Tryz.prog 33 #[v] W (Conv t W)) : Calls Tryz.prog 33 #[.iface 95 (.pointer (some ⟨b, 0, none⟩))] w (Conv (.inv t) w) := by
  have n34 := run_assert_other (P := Tryz.prog) (.pointer (some ⟨b, 0, none⟩)) 70 34 95 73 Tryz.underlying34 (by decide) (fun _ => by kernel_rfl)
  have n54 := run_assert_other (P := Tryz.prog) (.pointer (some ⟨b, 0, none⟩)) 70 54 95 80 Tryz.underlying54 (by decide) (fun _ => by kernel_rfl)
  have n102 := run_assert_other (P := Tryz.prog) (.pointer (some ⟨b, 0, none⟩)) 70 102 95 99 Tryz.underlying102 (by decide) (fun _ => by kernel_rfl)
  have n98 := run_assert_other (P := Tryz.prog) (.pointer (some ⟨b, 0, none⟩)) 70 98 95 94 Tryz.underlying98 (by decide) (fun _ => by kernel_rfl)
  have n100 := run_assert_other (P := Tryz.prog) (.pointer (some ⟨b, 0, none⟩)) 70 100 95 101 Tryz.underlying100 (by decide) (fun _ => by kernel_rfl)
  have ha := run_assert_same (P := Tryz.prog) (.pointer (some ⟨b, 0, none⟩)) 70 95 97 Tryz.underlying95
  have hbl := World.block_lt_of_cell? _ _ c0
  have H33 := Lib.hid h33
  clear h33
  go_enter Tryz.func33, Tryz.ntmps33
  go_wp2_with fail
  have hb1 : Below w.heap.size w (w.alloc (.cells zero48 48)) := (Below.refl _ _).alloc (Nat.le_refl _) _
  refine (H33.out (w.alloc (.cells zero48 48)) hb1).mono ?_
  rintro e w3 ⟨m, rfl, hb3, hm⟩
  have hb : Below w.heap.size w w3 := hb1.trans (hb3.mono hb1.size)
  obtain ⟨ka, kn, kc, ek⟩ := hm.kids
  obtain ⟨tag, un, nm, kd, tx, ws, bad, kids⟩ := m
  simp only at ek
  subst ek
  have hmv : (MV.val ⟨tag, un, nm, kd, tx, ws, bad, .slice ka kn kc⟩) = .agg #[.int .i64 tag, .string un, .float .f64 nm, .int .u8 kd, .string tx, .int .u8 ws, .bool bad, .slice ka kn kc] := rfl
  obtain ⟨W4, eW4⟩ : ∃ W4, W4 = w3.alloc (.cells #[.int .i64 tag, .string un, .float .f64 nm, .int .u8 kd, .string tx, .int .u8 ws, .bool bad, .slice ka kn kc] 48) := ⟨_, rfl⟩
  have hb4 : Below w3.heap.size w3 W4 := by rw [eW4]; exact (Below.refl _ _).alloc (Nat.le_refl _) _
  have hz3 : w.heap.size + 1 ≤ w3.heap.size := by have := hb3.size; rw [World.size_alloc] at this; exact this
  have hm4 : Mir W4 (w.heap.size < ·) ⟨6, ⟨#[]⟩, 0, 0, ⟨#[]⟩, 0, false, .slice (some ⟨w3.heap.size, 0, none⟩) 1 1⟩ (.inv t) := by
    refine .inv w3.heap.size 1 ⟨tag, un, nm, kd, tx, ws, bad, .slice ka kn kc⟩ t (by omega) ?_ ((hm.weaken (D' := (w.heap.size < ·)) (fun b _ h => by rw [World.size_alloc] at h; omega)).keep (Keeps.below hb4))
    rw [eW4]
    exact ⟨by simp [go_sem], by simp [go_sem], by simp [go_sem], by simp [go_sem], by simp [go_sem], by simp [go_sem], by simp [go_sem], by simp [go_sem]⟩
  have hf := conv_fin (hb.trans (hb4.mono hb.size)) hm4
  unfold put8 at hf
  simp only [Nat.zero_add] at hf
  have HF := Lib.hid hf
  unfold zero48 at hb3
  have hb5 := hb3.trans (hb4.mono (by rw [World.size_alloc]; omega))
  have r0 : W4.cell? ⟨w.heap.size, 0, none⟩ = some (.int .i64 0) := cell_later hb5 (by simp [go_sem])
  have r1 : W4.cell? ⟨w.heap.size, 1, none⟩ = some (.string ⟨#[]⟩) := cell_later hb5 (by simp [go_sem])
  have r2 : W4.cell? ⟨w.heap.size, 2, none⟩ = some (.float .f64 0) := cell_later hb5 (by simp [go_sem])
  have r3 : W4.cell? ⟨w.heap.size, 3, none⟩ = some (.int .u8 0) := cell_later hb5 (by simp [go_sem])
  have r4 : W4.cell? ⟨w.heap.size, 4, none⟩ = some (.string ⟨#[]⟩) := cell_later hb5 (by simp [go_sem])
  have r5 : W4.cell? ⟨w.heap.size, 5, none⟩ = some (.int .u8 0) := cell_later hb5 (by simp [go_sem])
  have r6 : W4.cell? ⟨w.heap.size, 6, none⟩ = some (.bool false) := cell_later hb5 (by simp [go_sem])
  have r7 : W4.cell? ⟨w.heap.size, 7, none⟩ = some (.slice none 0 0) := cell_later hb5 (by simp [go_sem])
  have rf : ∀ i, W4.frozen? ⟨w.heap.size, i, none⟩ = false := fun i => (Below.frozen hb5 (p := ⟨w.heap.size, i, none⟩) (by rw [World.size_alloc]; show w.heap.size < _; omega)).trans (by simp [go_sem])
  have rf0 := rf 0
  have rf1 := rf 1
  have rf2 := rf 2
  have rf3 := rf 3
  have rf4 := rf 4
  have rf5 := rf 5
  have rf6 := rf 6
  have rf7 := rf 7
  clear rf hb3 hb5 hb hb1 hm hf hm4 hb4 hz3
  subst eW4
  go_wp2_with fail
  refine bodyPost_ret (v := MV.val ⟨6, ⟨#[]⟩, 0, 0, ⟨#[]⟩, 0, false, .slice (some ⟨w3.heap.size, 0, none⟩) 1 1⟩) (by simp [results, Tryz.results33, go_sem, MV.val, *]) rfl ⟨_, rfl, HF.out.2, HF.out.1⟩

/-- The conversion of any tree. -/
theorem tree_any {w : World} {D : Nat → Prop} {v : Value} {t : CT} (h : Rep w D v t) : ∀ W, Below w.heap.size w W → Calls Tryz.prog 33 #[v] W (Conv t W) := by
  induction h with
  | num b u x hb c0 c1 => exact fun W hW => tree_num W b u x (cell_later hW c0) (cell_later hW c1)
  | val b k t ws bad p hb c0 c1 c2 c3 c4 c5 c6 c7 => exact fun W hW => tree_val W b k t ws bad (cell_later hW c1) (cell_later hW c5) (cell_later hW c6) (cell_later hW c7)
  | sum b r l vs h0 hb hr c0 cs rs ih => exact fun W hW => tree_sum W b r l vs h0 (cell_later hW c0) (fun i hi => cell_later hW (cs i hi)) (fun i hi W' hW' => ih i hi W' (hW.trans (hW'.mono hW.size)))
  | prod b r l vs h0 hb hr c0 cs rs ih => exact fun W hW => tree_prod W b r l vs h0 (cell_later hW c0) (fun i hi => cell_later hW (cs i hi)) (fun i hi W' hW' => ih i hi W' (hW.trans (hW'.mono hW.size)))
  | neg b v t hb c0 r ih => exact fun W hW => tree_neg W b v t (cell_later hW c0) (fun W' hW' => ih W' (hW.trans (hW'.mono hW.size)))
  | inv b v t hb c0 r ih => exact fun W hW => tree_inv W b v t (cell_later hW c0) (fun W' hW' => ih W' (hW.trans (hW'.mono hW.size)))

/-- ZZParseCalcTree on whatever the parse answers. -/
theorem pct_all (w : World) (s : Value) (o : Option CT) (h30 : ∀ W, Below w.heap.size w W → Calls Tryz.prog 30 #[s] W (Ans W o)) : Calls Tryz.prog 17 #[s] w (Tree w o) :=
  pct_any w s o h30 fun v W hv => by
    cases o with
    | none =>
      rw [show v = .nilIface from hv]
      exact (tree_nil W).mono fun e w' ⟨he, hb⟩ => ⟨mvNil, he, hb, rfl⟩
    | some t => exact (tree_any (t := t) hv W (Below.refl _ _)).mono fun e w' ⟨m, he, hb, hm⟩ => ⟨m, he, hb, hm⟩
end Go.Proofs.YthbfppnegodpoaaGreatDoor

