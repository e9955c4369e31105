/-
  The nodes' own simplification, and how the result is described.
-/
import Derived.Test.YtnoghiefpdbpbaaGreatFmtD
namespace Go.Proofs.YtnoghiefpdbpbaaGreatFmt
open Go.RowKit Go.Deep

theorem u57 : Tryz.prog.underlying 57 = some (.pointer 59) := by kernel_rfl
theorem u60 : Tryz.prog.underlying 60 = some (.pointer 62) := by kernel_rfl
theorem u55 : Tryz.prog.underlying 55 = some (.pointer 56) := by kernel_rfl
theorem u46 : Tryz.prog.underlying 46 = some (.pointer 48) := by kernel_rfl

/-- A type assertion that holds: the interface value bears just this pointer type. -/
theorem run_assert_same {P : Program} (x : Value) (xt t d : TypeId) (ht : P.underlying t = some (.pointer d)) (w : World) :
    (Instr.typeAssert (.iface t x) xt t true).run P w = .ok (.tuple #[x, .bool true]) w := by
  simp [Instr.typeAssert, run_underlying ht]
/-- One that does not: another type. -/
theorem run_assert_other {P : Program} (x : Value) (xt t u d : TypeId) (ht : P.underlying t = some (.pointer d)) (hu : u ≠ t) (hz : ∀ w, (zeroValue t).run P w = .ok (.pointer none) w) (w : World) :
    (Instr.typeAssert (.iface u x) xt t true).run P w = .ok (.tuple #[.pointer none, .bool false]) w := by
  simp [Instr.typeAssert, run_underlying ht, hu, hz]

theorem numsimp_any (n : Nat) (w : World) : Calls Tryz.prog 119 #[.pointer (some ⟨n, 0, none⟩)] w fun e w' => e = .returned (.iface 57 (.pointer (some ⟨n, 0, none⟩))) ∧ w = w' := by
  go_enter Tryz.func119, Tryz.ntmps119
  go_wp2
  go_ret
  exact ⟨rfl, rfl⟩

theorem below_drewN {B : Nat} {a w : World} (h : Below B a w) (n : Nat) : Below B a (w.drewN n) := ⟨h.os, h.tape, h.output, h.size, h.block⟩

/-- From w to w' only the number of node n turned: it is y now. -/
structure Turned (n y : Nat) (w w' : World) : Prop where
  size : w'.heap.size = w.heap.size
  num : w'.cell? ⟨n, 1, none⟩ = some (.float .f64 y)
  cells : ∀ b i, ¬ (b = n ∧ i = 1) → w'.cell? ⟨b, i, none⟩ = w.cell? ⟨b, i, none⟩
  fz : ∀ b i, w'.frozen? ⟨b, i, none⟩ = w.frozen? ⟨b, i, none⟩
  below : ∀ B a, Below B a w → B ≤ n → Below B a w'
  blocks : ∀ b, b ≠ n → b ≠ n + 1 → w'.heap[b]? = w.heap[b]?

theorem turned_set {n y k : Nat} {w : World} {v : Value} (c0 : w.cell? ⟨n + 1, 0, none⟩ = some v) (c2 : (w.cell? ⟨n, 1, none⟩).isSome = true) :
    Turned n y w (((w.setCell ⟨n + 1, 0, none⟩ v).drewN k).setCell ⟨n, 1, none⟩ (.float .f64 y)) where
  size := by rw [World.size_setCell]; exact World.size_setCell _ _ _
  num := World.cell?_setCell_same' _ _ _ (by
    show ((w.setCell _ _).cell? _).isSome = true
    rw [cell_set_other (by show n ≠ n + 1; omega)]; exact c2)
  cells b i h := by
    rw [World.cell?_setCell_other _ _ _ _ (fun e => h (by injection e with e1 e2; exact ⟨e1.symm ▸ rfl, e2.symm ▸ rfl⟩))]
    show (w.setCell _ _).cell? _ = _
    by_cases he : (⟨n + 1, 0, none⟩ : Addr) = ⟨b, i, none⟩
    · rw [← he, World.cell?_setCell_same' _ _ _ (by rw [c0]; rfl), c0]
    · rw [World.cell?_setCell_other _ _ _ _ (fun e => he e)]
  fz b i := by
    rw [World.frozen?_setCell]
    show (w.setCell _ _).frozen? _ = _
    rw [World.frozen?_setCell]
  blocks b h1 h2 := by
    rw [Below.heap_setCell _ _ _ _ h1]
    exact Below.heap_setCell _ _ _ _ h2
  below B a h hB := ((below_drewN (h.setCell (by show B ≤ n + 1; omega) _) _)).setCell hB _

/-- An inverted number gives its node, with the reciprocal in it. -/
def Inverted (n x : Nat) (w : World) (e : Ending) (w' : World) : Prop := ∃ W0, e = .returned (.iface 57 (.pointer (some ⟨n, 0, none⟩))) ∧ Turned n (fR .quo one x W0) w w'

set_option maxRecDepth 100000 in
set_option maxHeartbeats 1000000 in
theorem invsimp_any (n x : Nat) (w : World) (c0 : w.cell? ⟨n + 1, 0, none⟩ = some (.iface 57 (.pointer (some ⟨n, 0, none⟩)))) (f0 : w.frozen? ⟨n + 1, 0, none⟩ = false)
    (c1 : w.cell? ⟨n, 0, none⟩ = some (.string ⟨#[]⟩)) (c2 : w.cell? ⟨n, 1, none⟩ = some (.float .f64 x)) (f1 : w.frozen? ⟨n, 1, none⟩ = false) :
    Calls Tryz.prog 121 #[.pointer (some ⟨n + 1, 0, none⟩)] w (Inverted n x w) := by
  have ha := run_assert_same (P := Tryz.prog) (.pointer (some ⟨n, 0, none⟩)) 45 57 59 u57
  have hq := fun (W : World) => run_fop (P := Tryz.prog) (Or.inr (Or.inl rfl)) 33 4607182418800017408 x W
  have hn := numsimp_any n
  go_enter Tryz.func121, Tryz.ntmps121
  go_wp2_with fail
  refine (hn _).mono ?_
  rintro e w' ⟨rfl, rfl⟩
  go_wp2_with fail
  go_ret
  exact ⟨_, rfl, turned_set c0 (by rw [c2]; rfl)⟩

theorem z46 (w : World) : (zeroValue 46).run Tryz.prog w = .ok (.pointer none) w := by kernel_rfl
theorem z55 (w : World) : (zeroValue 55).run Tryz.prog w = .ok (.pointer none) w := by kernel_rfl
theorem z57 (w : World) : (zeroValue 57).run Tryz.prog w = .ok (.pointer none) w := by kernel_rfl

/-- A lone numeric node, described. -/
def Lone (u : ByteArray) (v : Nat) (w : World) (e : Ending) (w' : World) : Prop :=
  ∃ b1 b2, e = .returned (.tuple #[.int .i64 1, .slice (some ⟨b1, 0, none⟩) 1 1, .slice (some ⟨b2, 0, none⟩) 1 1]) ∧ w'.cell? ⟨b1, 0, none⟩ = some (.string u) ∧ w'.cell? ⟨b2, 0, none⟩ = some (.float .f64 v) ∧ Below w.heap.size w w'

set_option maxRecDepth 100000 in
set_option maxHeartbeats 1000000 in
theorem describe_num (n v : Nat) (u : ByteArray) (w : World) (c0 : w.cell? ⟨n, 0, none⟩ = some (.string u)) (c1 : w.cell? ⟨n, 1, none⟩ = some (.float .f64 v)) :
    Calls Tryz.prog 22 #[.iface 57 (.pointer (some ⟨n, 0, none⟩))] w (Lone u v w) := by
  have ha := run_assert_same (P := Tryz.prog) (.pointer (some ⟨n, 0, none⟩)) 45 57 59 u57
  have hn : n < w.heap.size := World.block_lt_of_cell? _ _ c0
  go_enter Tryz.func22, Tryz.ntmps22
  go_wp2_with fail
  go_region
  all_goals go_wp2_with fail
  all_goals
    go_ret3
    exact ⟨_, _, rfl, by simp [go_sem], by simp [go_sem], (((Below.refl _ _).alloc (Nat.le_refl _) _).alloc (by rw [World.size_alloc]; omega) _).drew⟩

/-- An empty product, described. -/
def Empty3 (w : World) (e : Ending) (w' : World) : Prop :=
  ∃ a1 a2 c1 c2, e = .returned (.tuple #[.int .i64 3, .slice a1 0 c1, .slice a2 0 c2]) ∧ Below w.heap.size w w'

theorem make0 (W : World) (t e : TypeId) (z : Value) (size bytes : Nat) (ht : Tryz.prog.underlying t = some (.slice e)) (hinfo : (Tryz.prog.info? e).map (fun i => (i.zero, i.size, i.bytes)) = some (some z, size, bytes)) (n : Nat)
    (hb : bytes * n ≤ 281474976710656) (h63 : n ≤ 9223372036854775807) :
    (Instr.makeSlice t (.int .i64 0) (.int .i64 (n : Int))).run Tryz.prog W = .ok (.slice (some ⟨W.heap.size, 0, none⟩) 0 n) (W.alloc (.cells (madeCells z.cells (n * size)) e)) := by
  obtain ⟨i, hi, hzz⟩ := Option.map_eq_some_iff.1 hinfo
  simp only [Prod.mk.injEq] at hzz
  obtain ⟨hz, rfl, rfl⟩ := hzz
  have hb : (i.bytes : Int) * (n : Int) ≤ 281474976710656 := by
    have h : ((i.bytes * n : Nat) : Int) ≤ 281474976710656 := by omega
    rwa [Int.natCast_mul] at h
  have hr := run_make (P := Tryz.prog) W t e i z ht hi hz .i64 .i64 0 n (by omega) (by omega) hb (by omega)
  simpa only [Int.toNat_natCast, Int.toNat_zero] using hr

set_option maxRecDepth 100000 in
theorem terms_empty (cap : Nat) (a : Option Addr) (w : World) :
    Calls Tryz.prog 26 #[.int .i64 3, .slice a 0 cap] w (Empty3 w) := by
  have hm1 : ∀ W, (Instr.makeSlice 22 (.int .i64 0) (.int .i64 0)).run Tryz.prog W = .ok (.slice (some ⟨W.heap.size, 0, none⟩) 0 0) (W.alloc (.cells (madeCells #[.string ⟨#[]⟩] 0) 9)) := fun W => make0 W 22 9 (.string ⟨#[]⟩) 1 16 Tryz.underlying22 info9 0 (by omega) (by omega)
  have hm2 : ∀ W, (Instr.makeSlice 23 (.int .i64 0) (.int .i64 0)).run Tryz.prog W = .ok (.slice (some ⟨W.heap.size, 0, none⟩) 0 0) (W.alloc (.cells (madeCells #[.float .f64 0] 0) 33)) := fun W => make0 W 23 33 (.float .f64 0) 1 8 Tryz.underlying23 info33 0 (by omega) (by omega)
  go_enter Tryz.func26, Tryz.ntmps26
  go_wp2_with fail
  refine wp_loop_rounds 1 ?_
  rw [rounds_succ]
  go_wp2_with fail
  go_ret3
  exact ⟨_, _, _, _, rfl, ((Below.refl _ _).alloc (Nat.le_refl _) _).alloc (by rw [World.size_alloc]; omega) _⟩

set_option maxRecDepth 100000 in
set_option maxHeartbeats 1000000 in
theorem describe_empty (c cap : Nat) (a : Option Addr) (w : World) (c0 : w.cell? ⟨c, 0, none⟩ = some (.slice a 0 cap)) :
    Calls Tryz.prog 22 #[.iface 55 (.pointer (some ⟨c, 0, none⟩))] w (Empty3 w) := by
  have ha := run_assert_same (P := Tryz.prog) (.pointer (some ⟨c, 0, none⟩)) 45 55 56 u55
  have hb := run_assert_other (P := Tryz.prog) (.pointer (some ⟨c, 0, none⟩)) 45 57 55 59 u57 (by decide) z57
  have hd := run_assert_other (P := Tryz.prog) (.pointer (some ⟨c, 0, none⟩)) 45 46 55 48 u46 (by decide) z46
  have ht := Lib.hid (terms_empty cap a w)
  go_enter Tryz.func22, Tryz.ntmps22
  go_wp2_with fail
  refine ht.out.mono ?_
  rintro e w' ⟨a1, a2, c1, c2, rfl, hB⟩
  go_wp2_with fail
  go_ret3
  exact ⟨_, _, _, _, rfl, hB⟩
end Go.Proofs.YtnoghiefpdbpbaaGreatFmt
