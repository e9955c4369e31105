/-
  Print of a tree of comments.
-/
import Derived.Test.YtiplakadjkimmabGreatFmtE
namespace Go.Proofs.YtiplakadjkimmabGreatFmt
open Go.RowKit Go.Deep Go.Maps

/-- The result's cells. -/
def resV (v : Value) : Array Value := #[.slice none 0 0, v, .slice none 0 0, .slice none 0 0, .int .u32 0, .slice none 0 0, .int .i64 0, .int .i64 0, .int .i64 0, .int .i64 0, .int .i64 0, .int .i64 0, .bool false, .int .i64 0, .bool false]

theorem take_snoc (us : List ByteArray) (k : Nat) (h : k < us.length) : us.take (k + 1) = us.take k ++ [us.getD k ByteArray.empty] := by
  rw [List.take_succ_eq_append_getElem h, List.getD_eq_getElem?_getD, List.getElem?_eq_getElem h]; rfl

theorem rowC_at0 (R : Nat → Nat) (n k : Nat) (h : k < n) : rowC R n (k * 2) = .iface 101 (.pointer (some ⟨R k, 0, none⟩)) := by
  unfold rowC
  rw [if_neg (by omega), if_pos (by omega), show k * 2 / 2 = k by omega]
theorem rowC_at1 (R : Nat → Nat) (n k : Nat) : rowC R n (k * 2 + 1) = .int .i32 0 := by
  unfold rowC
  rw [if_pos (by omega)]

theorem info65 : (Tryz.prog.info? 65).map (·.size) = some 15 := by kernel_rfl
theorem res21 : Tryz.f21.results = #[.cell 6 65] := by kernel_rfl
theorem one_res (a : Option Addr) (n m : Nat) : (resV (.slice a n m)).all (·.oneCell') = true := by simp [resV, Value.oneCell']

theorem Prn.alloc {B : Nat} {l : List ByteArray} {w : World} (h : Prn B l w) (o : Obj) : Prn B l (w.alloc o) := by
  obtain ⟨c10, ⟨z16, z17⟩, ⟨c15, c18⟩, ⟨v, c17, hrow⟩, hm⟩ := h
  have hB : B < w.heap.size := World.block_lt_of_cell? _ _ c10
  have hc := fun i => cell_alloc_old (w := w) (o := o) (b := B) (i := i) hB
  have hf := fun i => fz_alloc_old (w := w) (o := o) (b := B) (i := i) hB
  refine ⟨(hc 10).trans c10, ⟨(hf 16).trans z16, (hf 17).trans z17⟩, ⟨(hc 15).trans c15, (hc 18).trans c18⟩, ⟨v, (hc 17).trans c17, hrow.alloc o⟩, ?_⟩
  rcases hm with ⟨hl, hm⟩ | ⟨M, hM, hm, ho⟩
  · exact .inl ⟨hl, (hc 16).trans hm⟩
  · exact .inr ⟨M, hM, (hc 16).trans hm, ho.alloc o⟩

set_option maxHeartbeats 4000000 in
set_option maxRecDepth 100000 in
theorem print_any (T n : Nat) (R : Nat → Nat) (us : List ByteArray) (w : World) (hn : n ≤ 4096) (hl : us.length = n) (hz : ∀ i, i < n → (us.getD i ByteArray.empty).size ≤ 1048576)
    (hT : w.rowIs T 93 (n * 2) (rowC R n)) (hC : Cms us R n w) :
    Calls Tryz.prog 21 #[.agg (treeV (.slice (some ⟨T, 0, none⟩) n n)), .agg #[.slice none 0 0], .agg optV] w fun e w' => ∃ v B, e = .returned (.agg (resV v)) ∧ w'.ownsRow B 9 1 v (ded us).length ((ded us).map Value.string) ∧ Below w.heap.size w w' := by
  have HT := Lib.hid hT
  have HC := Lib.hid hC
  have HL := Lib.hid hl
  have HS := Lib.hid hz
  clear hT hC hl hz
  have hTlt : T < w.heap.size := by
    obtain ⟨cur, hh, _⟩ := HT.out
    exact (Array.getElem?_eq_some_iff.1 hh).1
  have HTL := Lib.hid hTlt
  clear hTlt
  have hb := builder_any
  unfold bldV at hb
  go_enter Tryz.func21, Tryz.ntmps21
  go_upto_region 0 with fail
  go_cut [3, 4, 5, 6] (fun a b c d wx => a = .pointer (some ⟨w.heap.size, 0, none⟩) ∧ b = .pointer (some ⟨w.heap.size + 1, 0, none⟩) ∧ c = .pointer (some ⟨w.heap.size + 1 + 1, 0, none⟩) ∧ d = .pointer (some ⟨w.heap.size + 1 + 1 + 1, 0, none⟩) ∧ Hid (Boxes w.heap.size (.slice (some ⟨T, 0, none⟩) n n) wx ∧ Below w.heap.size w wx))
  case first =>
    go_wp2_with fail
    go_meet
    exact ⟨rfl, rfl, rfl, rfl, boxes_made w _, below_made w _ _ _ _⟩
  case rest =>
  rename World => W0
  obtain ⟨rfl, rfl, rfl, rfl, HX⟩ := hcut
  have HZ : Hid (w.heap.size + 4 ≤ W0.heap.size) := Nat.le_of_eq HX.out.1.1.symm
  go_upto_region 1 with fail
  go_cut [7] (fun s7 wx => ∃ B, s7 = .pointer (some ⟨B, 0, none⟩) ∧ Hid (w.heap.size + 4 ≤ B ∧ Prn B [] wx ∧ Below (w.heap.size + 4) W0 wx))
  case first =>
    go_region_held3 (fun W => W.cell? ⟨w.heap.size, 2, none⟩ = some (.slice none 0 0) ∧ W.cell? ⟨w.heap.size + 1, 0, none⟩ = some (.slice none 0 0) ∧ ∀ o, W.cell? ⟨w.heap.size + 1 + 1, o, none⟩ = (#[.pointer none, .slice none 0 0, .map none, .int .i64 0, .int .u32 0, .int .u16 0, .bool false, .bool false, .int .u8 0, .bool false, .int .u8 2, .bool false, .int .u8 0] : Array Value)[o]?)
      (first
        | exact cells1 HX.out.1 (Below.refl _ _).drew | exact cells1 HX.out.1 (Below.refl _ _) | exact cells1 HX.out.1 HB1.out | exact cells1 HX.out.1 (HB1.out.alloc (Nat.le_trans HZ.out HB1.out.size) _)
        | exact cells1 HX.out.1 ((Below.refl _ _).alloc HZ.out _).drew | exact cells1 HX.out.1 ((Below.refl _ _).drew.alloc HZ.out _)
        | exact cells1 HX.out.1 (below_setRow (HB1.out.alloc (Nat.le_trans HZ.out HB1.out.size) _) (Nat.le_trans HZ.out HB1.out.size) _) | exact cells1 HX.out.1 (below_setRow HB1.out HZ.out _))
      ((go_at_call 26; refine (hb _).mono ?_; rintro e w' ⟨rfl, hb'⟩; (first | (have hq := later_prn hb') | (have hq := later_prn' hb') | skip);
        (first | (have HB1 : Hid (Below (w.heap.size + 4) W0 w') := below_call (Below.refl _ _).drew HZ.out hb') | (have HB1 : Hid (Below (w.heap.size + 4) W0 w') := below_call ((Below.refl _ _).alloc HZ.out _).drew (Nat.le_trans HZ.out (by show W0.heap.size ≤ (World.alloc _ _).heap.size; rw [World.size_alloc]; omega)) hb') | (have HB1 : Hid (Below (w.heap.size + 4) W0 w') := below_call ((Below.refl _ _).drew.alloc HZ.out _) (Nat.le_trans HZ.out (by rw [World.size_alloc]; exact Nat.le_succ _)) hb')); clear hb'))
    all_goals (go_wp2_with fail; go_meet; first
      | exact ⟨_, rfl, Nat.le_trans HZ.out HB1.out.size, prn_start _ _ _ (zero85_last _), below_setRow (HB1.out.alloc (Nat.le_trans HZ.out HB1.out.size) _) (Nat.le_trans HZ.out HB1.out.size) _⟩
      | exact ⟨_, rfl, HZ.out, prn_start _ _ _ hq, below_setRow HB1.out HZ.out _⟩)
  case rest =>
  rename World => W1
  obtain ⟨B, rfl, HP⟩ := hcut
  clear hb
  have c3 : W1.cell? ⟨w.heap.size, 3, none⟩ = some (.slice (some ⟨T, 0, none⟩) n n) := by
    rw [HP.out.2.2.cell (p := ⟨w.heap.size, 3, none⟩) (show w.heap.size < w.heap.size + 4 by omega)]
    simp [World.cell?, HX.out.1.2.1, treeV]
  go_wp2_with fail
  go_loopw [26] (fun i wr => ∃ k : Nat, k ≤ n ∧ i = .int .i64 k ∧ Hid (Prn B (us.take k) wr) ∧ Hid (Below (w.heap.size + 4) W1 wr)) (fun i _ => n - (intOf i).toNat)
  case atStart =>
    exact ⟨0, Nat.zero_le _, rfl, HP.out.2.1, Below.refl _ _⟩
  case round =>
    obtain ⟨k, hk, rfl, hr, hb⟩ := hrel
    have HW : Hid (Below w.heap.size w wr) := HX.out.2.trans ((HP.out.2.2.trans hb.out).mono (Nat.le_add_right _ _))
    by_cases hlt : k < n
    · have hrow : wr.rowIs T 93 (n * 2) (rowC R n) := by
        obtain ⟨cur, hh, h2⟩ := HT.out
        exact ⟨cur, (HW.out.block T HTL.out).trans hh, h2⟩
      have t0 : wr.cell? ⟨T, k * 2, none⟩ = some (.iface 101 (.pointer (some ⟨R k, 0, none⟩))) := by rw [hrow.cell (by omega), rowC_at0 _ _ _ hlt]
      have t1 : wr.cell? ⟨T, k * 2 + 1, none⟩ = some (.int .i32 0) := by rw [hrow.cell (by omega), rowC_at1]
      clear hrow
      have hkn : (k : Int) < (n : Int) := by omega
      have hc0 := World.block_lt_of_cell? _ _ (HC.out k hlt)
      simp only at hc0
      have hcR : Hid (wr.cell? ⟨R k, 0, none⟩ = some (.string (us.getD k ByteArray.empty))) := (HW.out.cell (p := ⟨R k, 0, none⟩) hc0).trans (HC.out k hlt)
      have HR := Lib.hid hc0
      clear hc0
      have HBs : Hid (B < wr.heap.size) := World.block_lt_of_cell? _ _ hr.out.1
      have hPA := fun o => Lib.hid (hr.out.alloc o)
      have hcA := fun o => (cell_alloc_old (w := wr) (o := o) (i := 0) (World.block_lt_of_cell? _ _ hcR.out)).trans hcR.out
      have HcA := Lib.hid hcA
      clear hcA
      go_wp2_with (first | (go_at_call 22; refine (rule_any B (R k) (us.take k) (us.getD k ByteArray.empty) _ (Nat.lt_of_lt_of_le HR.out (Nat.le_trans (Nat.le_add_right _ _) HP.out.1)) (HcA.out _) (HS.out k hlt) (by rw [List.length_take]; omega) (hPA _).out).mono ?_; rintro e w' ⟨rfl, hP', hb'⟩; have HP' := Lib.hid hP'; have HB' := Lib.hid hb'; clear hP' hb'))
      go_roundw
      case rel =>
        refine ⟨k + 1, by omega, by go_num, ?_, ?_⟩
        · show Prn B _ _
          rw [take_snoc us k (by rw [HL.out]; exact hlt)]
          exact HP'.out
        · exact (hb.out.alloc (Nat.le_trans HP.out.1 (Nat.le_of_lt HBs.out)) _).trans (HB'.out.mono HP.out.1)
      case measure => simp [intOf]; omega
    · have hkn : ¬ (k : Int) < (n : Int) := by omega
      have e : k = n := by omega
      have HBs : Hid (B < wr.heap.size) := World.block_lt_of_cell? _ _ hr.out.1
      obtain ⟨_, _, ⟨c15, c18⟩, ⟨v, c17, hrow⟩, _⟩ := hr.out
      rw [List.take_of_length_le (by rw [HL.out]; omega)] at hrow
      obtain ⟨sa, sn, sm, rfl⟩ : ∃ a n m, v = .slice a n m := by
        rcases hrow.2 with ⟨hv, _⟩ | ⟨g, cap, cur, hv, _⟩
        · exact ⟨_, _, _, hv⟩
        · exact ⟨_, _, _, hv⟩
      have HRow := Lib.hid hrow
      have hsz : ∀ v : Value, (Tryz.prog.info? 65).map (·.size) = some (resV v).size := fun v => info65
      have h04 : Hid (Below (w.heap.size + 4) W0 wr) := HP.out.2.2.trans hb.out
      have hB4 := HP.out.1
      have e1 := fun o => heap_alloc_new wr o
      have e3 : ∀ o cs, ((wr.alloc o).setRow wr.heap.size cs).heap[w.heap.size + 1 + 1 + 1]? = some (.cells resZ 65 (0, 0)) := fun o cs => by
        have hB := HBs.out
        rw [setRow_other _ _ _ _ (by omega), Below.heap_alloc _ _ _ (by omega), h04.out.block _ (by omega)]
        exact HX.out.1.2.2.2.2
      have c8 : ∀ o cs, ((wr.alloc o).setRow wr.heap.size cs).cell? ⟨w.heap.size + 1 + 1, 8, none⟩ = some (.int .u8 0) := fun o cs => by
        have hB := HBs.out
        rw [cell_setRow_other _ _ _ _ (by show w.heap.size + 1 + 1 ≠ _; omega), cell_alloc_old (by omega), h04.out.cell (p := ⟨w.heap.size + 1 + 1, 8, none⟩) (by show w.heap.size + 1 + 1 < _; omega)]
        simp [World.cell?, HX.out.1.2.2.2.1, optV]
      have HE := Lib.hid (And.intro e1 (And.intro e3 hsz))
      clear e1 e3 hsz hrow
      go_wp2_with (first
        | (refine wpList_store_row rfl 65 (.tmp 10) (.tmp 39) rfl wr.heap.size (resV (.slice sa sn sm)) rfl rfl 65 _ (HE.out.1 _) (HE.out.2.2 _) rfl (one_res _ _ _) ?_)
        | (refine wpList_load_row rfl 65 (.tmp 10) rfl wr.heap.size rfl 65 (resV (.slice sa sn sm)) (0, 0) _ (setRow_heap _ _ _ _ _ _ (HE.out.1 _)) Tryz.underlying65 rfl (HE.out.2.2 _) ?_)
        | (refine wpList_store_row rfl 65 (.tmp 6) (.tmp 48) rfl (w.heap.size + 1 + 1 + 1) (resV (.slice sa sn sm)) rfl rfl 65 _ (HE.out.2.1 _ _) (HE.out.2.2 _) rfl (one_res _ _ _) ?_)
        | fail)
      refine bodyPost_ret (v := .agg (resV (.slice sa sn sm))) (results_cell_row res21 _ _ (w.heap.size + 1 + 1 + 1) 65 (resV (.slice sa sn sm)) (0, 0) _ rfl (setRow_heap _ _ _ _ _ _ (HE.out.2.1 _ _)) Tryz.underlying65 rfl (HE.out.2.2 _)) rfl ?_
      have hB := HBs.out
      have HW := HX.out.2.trans ((HP.out.2.2.trans hb.out).mono (Nat.le_add_right _ _))
      have hws := HW.size
      refine ⟨_, rfl, ⟨B + 1, HRow.out.1, ?_⟩, below_setRow (below_setRow (HW.alloc hws _) hws _) (by omega) _⟩
      rcases HRow.out.2 with ⟨hv, h0⟩ | ⟨g, cap, cur, hv, hbg, hg, hr1, hr2, hr3, hr4⟩
      · exact .inl ⟨hv, h0⟩
      · have hgl := (Array.getElem?_eq_some_iff.1 hg).1
        refine .inr ⟨g, cap, cur, hv, hbg, ?_, hr1, hr2, hr3, hr4⟩
        rw [setRow_other _ _ _ _ (by omega), setRow_other _ _ _ _ (by omega), Below.heap_alloc _ _ _ hgl]
        exact hg
end Go.Proofs.YtiplakadjkimmabGreatFmt
