/-
  The tree of comments; the builder of source maps.
-/
import Derived.Test.YtiplakadjkimmabGreatFmtA
import Derived.Test.YtiplakadjkimmabGreatFmtB
import Derived.Deep.RegionWith
import Derived.Laws.Tables
import Derived.Laws.CopyOwn
namespace Go.Proofs.YtiplakadjkimmabGreatFmt
open Go.RowKit Go.Deep Go.Maps

/-- The builder's cells. -/
def bldV (m : Nat) : Array Value := #[.pointer none, .slice none 0 0, .slice none 0 0, .map (some m), .slice none 0 0, .string ⟨#[]⟩, .int .i64 0, .int .i64 0, .int .i64 0, .int .i64 0, .int .i64 0, .int .i64 0,
  .bool false, .int .i64 0, .int .i64 0, .int .i64 0, .int .i32 (-1), .int .u32 0, .bool false, .bool false, .bool false, .bool true]

theorem info83 : (Tryz.prog.info? 83).map (·.size) = some 22 := by kernel_rfl
theorem size_bld (m : Nat) : (bldV m).size = 22 := rfl

theorem res26 : Tryz.f26.results = #[.cell 6 83] := by kernel_rfl

theorem one_bld (m : Nat) : (bldV m).all (·.oneCell') = true := by simp [bldV, Value.oneCell']

set_option maxHeartbeats 1000000 in
set_option maxRecDepth 100000 in
theorem builder_any (w : World) : Calls Tryz.prog 26 #[.pointer none, .slice none 0 0, .bool false] w fun e w' => e = .returned (.agg (bldV (w.heap.size + 1))) ∧ Below w.heap.size w w' := by
  have hmm := @run_makeMap Tryz.prog
  have hsz : (Tryz.prog.info? 83).map (·.size) = some (bldV (w.heap.size + 1)).size := by rw [size_bld]; exact info83
  have h1 := one_bld (w.heap.size + 1)
  have hlast := fun A B => heap_alloc2_old w A B
  have HS := Lib.hid (And.intro hsz (And.intro h1 hlast))
  clear hsz h1 hlast
  go_enter Tryz.func26, Tryz.ntmps26
  go_wp2_with (first | (refine wpList_store_row rfl 83 (.tmp 6) (.tmp 14) rfl w.heap.size (bldV (w.heap.size + 1)) rfl rfl 83 _ (HS.out.2.2 _ _) HS.out.1 rfl HS.out.2.1 ?_) | fail)
  refine bodyPost_ret (v := .agg (bldV (w.heap.size + 1))) (results_cell_row res26 _ _ w.heap.size 83 (bldV (w.heap.size + 1)) (0, 0) _ rfl (setRow_heap _ _ _ _ _ _ (HS.out.2.2 _ _)) Tryz.underlying83 rfl HS.out.1) rfl ?_
  exact ⟨rfl, below_setRow (((Below.refl _ _).alloc (Nat.le_refl _) _).alloc (by rw [World.size_alloc]; omega) _) (Nat.le_refl _) _⟩

theorem info93 : (Tryz.prog.info? 93).map (fun i => (i.zero, i.size, i.bytes)) = some (some (.agg #[.nilIface, .int .i32 0]), 2, 24) := by kernel_rfl

theorem make0 (W : World) (t e : TypeId) (z : Value) (size bytes : Nat) (ht : Tryz.prog.underlying t = some (.slice e)) (hinfo : (Tryz.prog.info? e).map (fun i => (i.zero, i.size, i.bytes)) = some (some z, size, bytes)) (n : Nat)
    (hb : bytes * n ≤ 281474976710656) (h63 : n ≤ 9223372036854775807) :
    (Instr.makeSlice t (.int .i64 0) (.int .i64 (n : Int))).run Tryz.prog W = .ok (.slice (some ⟨W.heap.size, 0, none⟩) 0 n) (W.alloc (.cells (madeCells z.cells (n * size)) e)) := by
  obtain ⟨i, hi, hzz⟩ := Option.map_eq_some_iff.1 hinfo
  simp only [Prod.mk.injEq] at hzz
  obtain ⟨hz, rfl, rfl⟩ := hzz
  have hb : (i.bytes : Int) * (n : Int) ≤ 281474976710656 := by
    have h : ((i.bytes * n : Nat) : Int) ≤ 281474976710656 := by omega
    rwa [Int.natCast_mul] at h
  have hr := run_make (P := Tryz.prog) W t e i z ht hi hz .i64 .i64 0 n (by omega) (by omega) hb (by omega)
  simpa only [Int.toNat_natCast, Int.toNat_zero] using hr

theorem rowIs_made2 (w : World) (z : Array Value) (n : Nat) (t : TypeId) (s : Nat) (hs : z.size = s) : (w.alloc (.cells (madeCells z (n * s)) t)).rowIs w.heap.size t (n * s) (fun i => z[i % s]!) := by
  refine ⟨_, blk_alloc_new _ _, size_madeCells _ _, fun i hi => ?_⟩
  simp [madeCells, hi, hs]

/-- The rows of the rules, k of them set. -/
def rowC (R : Nat → Nat) (k j : Nat) : Value := if j % 2 = 1 then .int .i32 0 else if j / 2 < k then .iface 101 (.pointer (some ⟨R (j / 2), 0, none⟩)) else .nilIface

theorem rowC_set (R : Nat → Nat) (k p j : Nat) : (if j = k * 2 then Value.iface 101 (.pointer (some ⟨p, 0, none⟩)) else if j = k * 2 + 1 then .int .i32 0 else rowC R k j) = rowC (fun i => if i = k then p else R i) (k + 1) j := by
  unfold rowC
  by_cases h0 : j = k * 2
  · subst h0; rw [if_pos rfl, if_neg (by omega), if_pos (by omega)]; show _ = Value.iface 101 (.pointer (some ⟨if k * 2 / 2 = k then p else R (k * 2 / 2), 0, none⟩)); rw [if_pos (by omega)]
  · rw [if_neg h0]
    by_cases h1 : j = k * 2 + 1
    · subst h1; rw [if_pos rfl, if_pos (by omega)]
    · rw [if_neg h1]
      by_cases ho : j % 2 = 1
      · rw [if_pos ho, if_pos ho]
      · rw [if_neg ho, if_neg ho]
        by_cases h2 : j / 2 < k
        · rw [if_pos h2, if_pos (by omega)]; show _ = Value.iface 101 (.pointer (some ⟨if j / 2 = k then p else R (j / 2), 0, none⟩)); rw [if_neg (by omega)]
        · rw [if_neg h2, if_neg (by omega)]

/-- The comments' own blocks. -/
def Cms (us : List ByteArray) (R : Nat → Nat) (k : Nat) (W : World) : Prop := ∀ i, i < k → W.cell? ⟨R i, 0, none⟩ = some (.string (us.getD i ByteArray.empty))

theorem Cms.below {us : List ByteArray} {R : Nat → Nat} {k : Nat} {W W' : World} (h : Cms us R k W) (hb : Below W.heap.size W W') : Cms us R k W' := fun i hi => cell_later hb (h i hi)

/-- The tree's cells. -/
def treeV (v : Value) : Array Value := #[.slice none 0 0, .pointer none, .slice none 0 0, v, .string ⟨#[]⟩, .int .i32 0, .int .i32 0, .int .i32 0, .slice none 0 0, .map none, .map none, .map none, .slice none 0 0, .slice none 0 0]
theorem info52 : (Tryz.prog.info? 52).map (·.size) = some 14 := by kernel_rfl
theorem size_tree (v : Value) : (treeV v).size = 14 := rfl
theorem one_tree (a : Option Addr) (n c : Nat) : (treeV (.slice a n c)).all (·.oneCell') = true := by simp [treeV, Value.oneCell']
theorem res20 : Tryz.f20.results = #[.cell 2 52] := by kernel_rfl

set_option maxHeartbeats 1000000 in
set_option maxRecDepth 100000 in
theorem tree_any (a : Option Addr) (cap n : Nat) (us : List ByteArray) (w : World) (hn : n ≤ 4096) (hl : us.length = n) (hu : Slc Value.string ByteArray.empty w a us) :
    Calls Tryz.prog 20 #[.slice a n cap] w fun e w' => ∃ T R, e = .returned (.agg (treeV (.slice (some ⟨T, 0, none⟩) n n))) ∧ w'.rowIs T 93 (n * 2) (rowC R n) ∧ Cms us R n w' ∧ Below w.heap.size w w' := by
  have HU := Lib.hid hu
  have HL := Lib.hid hl
  clear hu hl
  have hmk := fun W => make0 W 40 93 (.agg #[.nilIface, .int .i32 0]) 2 24 Tryz.underlying40 info93 n (by omega) (by omega)
  go_enter Tryz.func20, Tryz.ntmps20
  go_wp2_with fail
  go_loopw [3, 5, 11] (fun t _ i wr => ∃ (k : Nat) (R : Nat → Nat), k ≤ n ∧ i = .int .i64 k ∧ t = .slice (some ⟨w.heap.size + 1, 0, none⟩) k n ∧ Hid (wr.rowIs (w.heap.size + 1) 93 (n * 2) (rowC R k)) ∧ Hid (Cms us R k wr ∧ ∀ i, i < k → w.heap.size + 1 < R i) ∧ Hid (Below w.heap.size w wr) ∧ Hid (wr.heap[w.heap.size]? = some (.cells (treeV (.slice none 0 0)) 52 (0, 0)))) (fun _ _ i _ => n - (intOf i).toNat)
  case atStart =>
    refine ⟨0, fun _ => 0, Nat.zero_le _, rfl, rfl, ?_, ⟨fun i hi => absurd hi (Nat.not_lt_zero _), fun i hi => absurd hi (Nat.not_lt_zero _)⟩, ((Below.refl _ _).alloc (Nat.le_refl _) _).alloc (by rw [World.size_alloc]; omega) _, heap_alloc2_old w (.cells (treeV (.slice none 0 0)) 52) _⟩
    have h := rowIs_made2 (w.alloc (.cells (treeV (.slice none 0 0)) 52)) #[.nilIface, .int .i32 0] n 93 2 rfl
    rw [World.size_alloc] at h
    refine h.congr (fun i hi => ?_)
    unfold rowC
    rcases Nat.mod_two_eq_zero_or_one i with h | h
    · rw [h, if_neg (by omega), if_neg (by omega)]; rfl
    · rw [h, if_pos rfl]; rfl
  case round =>
    obtain ⟨k, R, hk, rfl, rfl, hr, hC, hb, hh⟩ := hrel
    by_cases hlt : k < n
    · obtain ⟨b, o, e, hc⟩ := (HU.out.below hb.out) k (by rw [HL.out]; exact hlt)
      subst e
      obtain ⟨u, eu⟩ : ∃ u, u = us.getD k ByteArray.empty := ⟨_, rfl⟩
      rw [← eu] at hc
      have HE := Lib.hid eu
      have t0 : wr.cell? ⟨w.heap.size + 1, k * 2, none⟩ = some .nilIface := by
        rw [hr.out.cell (by omega)]; unfold rowC
        rw [if_neg (by omega), if_neg (by omega)]
      have t1 : wr.cell? ⟨w.heap.size + 1, k * 2 + 1, none⟩ = some (.int .i32 0) := by
        rw [hr.out.cell (by omega)]; unfold rowC
        rw [if_pos (by omega)]
      have tf0 : wr.frozen? ⟨w.heap.size + 1, k * 2, none⟩ = false := hr.out.frozen _
      have tf1 : wr.frozen? ⟨w.heap.size + 1, k * 2 + 1, none⟩ = false := hr.out.frozen _
      have lT := World.block_lt_of_cell? _ _ t0
      simp only at lT
      have tc0 := fun (o1 o2 : Obj) => (cell_alloc_old (w := wr.alloc o1) (o := o2) (b := w.heap.size + 1) (i := k * 2) (by rw [World.size_alloc]; omega)).trans ((cell_alloc_old (w := wr) (o := o1) lT).trans t0)
      have tc1 := fun (o1 o2 : Obj) => (cell_alloc_old (w := wr.alloc o1) (o := o2) (b := w.heap.size + 1) (i := k * 2 + 1) (by rw [World.size_alloc]; omega)).trans ((cell_alloc_old (w := wr) (o := o1) lT).trans t1)
      have tg := fun (o1 o2 : Obj) (i : Nat) => (fz_alloc_old (w := wr.alloc o1) (o := o2) (b := w.heap.size + 1) (i := i) (by rw [World.size_alloc]; omega)).trans ((fz_alloc_old (w := wr) (o := o1) lT).trans (hr.out.frozen i))
      have hkn : (k : Int) < (n : Int) := by omega
      clear eu
      go_wp2_with fail
      go_roundw
      case rel =>
        have hbz := hb.out.size
        have zA : ∀ o, (wr.alloc o).heap.size = wr.heap.size + 1 := fun o => World.size_alloc _ _
        refine ⟨k + 1, fun i => if i = k then wr.heap.size else R i, by omega, by go_num, rfl, ?_, ⟨fun i hi => ?_, fun i hi => ?_⟩, ?_, ?_⟩
        · refine ((((hr.out.alloc _).alloc _).set (k * 2) _).set (k * 2 + 1) _).congr (fun j _ => ?_)
          rw [← rowC_set]
          by_cases h0 : j = k * 2
          · subst h0; rw [if_neg (by omega), if_pos rfl, if_pos rfl]
          · by_cases h1 : j = k * 2 + 1
            · subst h1; rw [if_pos rfl, if_neg (by omega), if_pos rfl]
            · rw [if_neg h1, if_neg h0, if_neg h0, if_neg h1]
        · show World.cell? _ ⟨if i = k then wr.heap.size else R i, 0, none⟩ = _
          by_cases e : i = k
          · subst e
            rw [if_pos rfl, cell_set_other (by show wr.heap.size ≠ w.heap.size + 1; omega), cell_set_other (by show wr.heap.size ≠ w.heap.size + 1; omega), cell_alloc_old (by rw [zA]; omega), World.cell?_alloc_new, ← HE.out]
            rfl
          · have h1 := hC.out.1 i (by omega)
            have h2 := hC.out.2 i (by omega)
            have h3 := World.block_lt_of_cell? _ _ h1
            simp only at h3
            rw [if_neg e, cell_set_other (by show R i ≠ w.heap.size + 1; omega), cell_set_other (by show R i ≠ w.heap.size + 1; omega), cell_alloc_old (by rw [zA]; omega), cell_alloc_old h3]
            exact h1
        · show w.heap.size + 1 < if i = k then wr.heap.size else R i
          by_cases e : i = k
          · rw [if_pos e]; exact lT
          · rw [if_neg e]; exact hC.out.2 i (by omega)
        · exact (((hb.out.alloc hbz _).alloc (by rw [zA]; omega) _).setCell (by show w.heap.size ≤ w.heap.size + 1; omega) _).setCell (by show w.heap.size ≤ w.heap.size + 1; omega) _
        · rw [Below.heap_setCell _ _ _ _ (by show w.heap.size ≠ w.heap.size + 1; omega), Below.heap_setCell _ _ _ _ (by show w.heap.size ≠ w.heap.size + 1; omega), Below.heap_alloc _ _ _ (by rw [zA]; omega), Below.heap_alloc _ _ _ (by omega)]
          exact hh.out
      case measure => simp [intOf]; omega
    · obtain rfl : k = n := by omega
      have hsz : ∀ v, (Tryz.prog.info? 52).map (·.size) = some (treeV v).size := fun v => by rw [size_tree]; exact info52
      go_wp2_with (first | (refine wpList_store_row rfl 52 (.tmp 2) (.tmp 25) rfl w.heap.size (treeV (.slice (some ⟨w.heap.size + 1, 0, none⟩) k k)) rfl rfl 52 _ hh.out (hsz _) rfl (one_tree _ _ _) ?_) | fail)
      refine bodyPost_ret (v := .agg (treeV (.slice (some ⟨w.heap.size + 1, 0, none⟩) k k))) (results_cell_row res20 _ _ w.heap.size 52 (treeV (.slice (some ⟨w.heap.size + 1, 0, none⟩) k k)) (0, 0) _ rfl (setRow_heap _ _ _ _ _ _ hh.out) Tryz.underlying52 rfl (hsz _)) rfl ?_
      have hbz := hb.out.size
      refine ⟨w.heap.size + 1, R, rfl, ?_, fun i hi => ?_, below_setRow hb.out (Nat.le_refl _) _⟩
      · obtain ⟨cur, h1, h2, h3⟩ := hr.out
        exact ⟨cur, (setRow_other _ _ _ _ (by omega)).trans h1, h2, h3⟩
      · rw [cell_setRow_other _ _ _ _ (by have := hC.out.2 i hi; show R i ≠ w.heap.size; omega)]
        exact hC.out.1 i hi
end Go.Proofs.YtiplakadjkimmabGreatFmt
