/-
  tryToParseCalcTerm on one number token.
-/
import Derived.Test.YthbfppnegodpoaaGreatDoorD
namespace Go.Proofs.YthbfppnegodpoaaGreatDoor
open Go.RowKit Go.Deep Go.PlainAid

/-- The cells of a token. -/
def tok (s : ByteArray) (kd ws : Int) : Array Value := #[.pointer none, .string s, .int .i32 0, .int .u32 0, .int .u16 0, .int .u8 kd, .int .u8 ws]

/-- make of a row of several cells. -/
theorem make_row {P : Program} (t e : TypeId) (z : Value) (size bytes : Nat) (ht : P.underlying t = some (.slice e)) (hinfo : (P.info? e).map (fun i => (i.zero, i.size, i.bytes)) = some (some z, size, bytes))
    (kl kc : IntKind) (n : Nat) (hbytes : bytes * n ≤ 281474976710656) (h63 : n ≤ 9223372036854775807) (w : World) :
    (Instr.makeSlice t (.int kl (n : Int)) (.int kc (n : Int))).run P w = .ok (.slice (some ⟨w.heap.size, 0, none⟩) n n) (w.alloc (.cells (madeCells z.cells (n * size)) e)) := by
  obtain ⟨i, hi, hzz⟩ := Option.map_eq_some_iff.1 hinfo
  simp only [Prod.mk.injEq] at hzz
  obtain ⟨hz, rfl, rfl⟩ := hzz
  have hb : (i.bytes : Int) * (n : Int) ≤ 281474976710656 := by
    have h : ((i.bytes * n : Nat) : Int) ≤ 281474976710656 := by omega
    rwa [Int.natCast_mul] at h
  have hr := run_make (P := P) w t e i z ht hi hz kl kc n n (by omega) (Int.le_refl _) hb (by omega)
  simpa only [Int.toNat_natCast] using hr

theorem info92 : (Tryz.prog.info? 92).map (fun i => (i.zero, i.size, i.bytes)) = some (some (.agg #[.nilIface, .int .i32 0]), 2, 24) := by kernel_rfl

theorem make_one (W : World) : (Instr.makeSlice 84 (.int .i64 1) (.int .i64 1)).run Tryz.prog W = .ok (.slice (some ⟨W.heap.size, 0, none⟩) 1 1) (W.alloc (.cells #[.nilIface, .int .i32 0] 92)) := by
  have h := make_row (P := Tryz.prog) 84 92 (.agg #[.nilIface, .int .i32 0]) 2 24 Tryz.underlying84 info92 .i64 .i64 1 (by omega) (by omega) W
  have e : madeCells (Value.agg #[.nilIface, .int .i32 0]).cells (1 * 2) = #[.nilIface, .int .i32 0] := by kernel_rfl
  rw [e] at h
  exact h

theorem Tabs.below {w w' : World} (h : Tabs w) (hb : Below w.heap.size w w') : Tabs w' := ⟨cell_later hb h.opt, cell_later hb h.info⟩

/-- A new numeric node, worth x, without a unit. -/
def Numeric (x : Nat) (w : World) (e : Ending) (w' : World) : Prop :=
  ∃ b, e = .returned (.iface 34 (.pointer (some ⟨b, 0, none⟩))) ∧ b < w'.heap.size ∧ w'.cell? ⟨b, 0, none⟩ = some (.string ⟨#[]⟩) ∧ w'.cell? ⟨b, 1, none⟩ = some (.float .f64 x) ∧ Below w.heap.size w w'

set_option maxHeartbeats 4000000 in
set_option maxRecDepth 100000 in
theorem calc_number (s : ByteArray) (ws : Int) (x : Nat) (b cap : Nat) (w : World) (hT : Tabs w)
    (c0 : w.cell? ⟨b, 0, none⟩ = some (.pointer none)) (c1 : w.cell? ⟨b, 1, none⟩ = some (.string s)) (c2 : w.cell? ⟨b, 2, none⟩ = some (.int .i32 0)) (c3 : w.cell? ⟨b, 3, none⟩ = some (.int .u32 0))
    (c4 : w.cell? ⟨b, 4, none⟩ = some (.int .u16 0)) (c5 : w.cell? ⟨b, 5, none⟩ = some (.int .u8 30)) (c6 : w.cell? ⟨b, 6, none⟩ = some (.int .u8 ws))
    (h41 : ∀ W, Tabs W → Calls Tryz.prog 41 #[.string s, .int .i64 64] W fun e w' => e = .returned (.tuple #[.float .f64 x, .nilIface]) ∧ W = w') :
    Calls Tryz.prog 30 #[.slice (some ⟨b, 0, none⟩) 1 cap] w (Numeric x w) := by
  have hbs : b < w.heap.size := World.block_lt_of_cell? _ _ c0
  have hmk := make_one
  have HT := Lib.hid hT
  have H41 := Lib.hid h41
  clear h41 hT
  go_enter Tryz.func30, Tryz.ntmps30
  go_wp2_with fail
  refine wp_loop_rounds 2 ?_
  rw [rounds_succ]
  go_wp2_with fail
  refine (H41.out _ (HT.out.below (by go_grown))).mono ?_
  rintro e w' ⟨rfl, rfl⟩
  go_wp2_with fail
  rw [rounds_succ]
  go_wp2_with fail
  refine wp_loop_rounds 1 ?_
  rw [rounds_succ]
  go_wp2_with fail
  refine wp_loop_rounds 1 ?_
  rw [rounds_succ]
  go_wp2_with fail
  go_ret
  refine ⟨_, rfl, ?_, ?_, ?_, ?_⟩
  · simp
  · simp [go_sem]
  · simp [go_sem]
  · go_grown
end Go.Proofs.YthbfppnegodpoaaGreatDoor
