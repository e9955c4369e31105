/-
  The sum of a calc expression, walked: numeric terms, some negated.
-/
import Derived.Test.YtnoghiefpdbpbaaGreatFmtP
namespace Go.Proofs.YtnoghiefpdbpbaaGreatFmt
open Go.RowKit Go.Deep

theorem TR.headCell {T n e : Nat} {N : Nat → Nat} {A S : List Nat} {W : World} (h : TR T n e N A S W) {q : Nat} (hq : q < A.length) :
    W.cell? ⟨T, q * 2, none⟩ = some (.iface 57 (.pointer (some ⟨N (A.getD q 0), 0, none⟩))) ∧ W.cell? ⟨T, q * 2 + 1, none⟩ = some (.int .i32 0) := by
  obtain ⟨h1, h2, f, h3, h4, _⟩ := h
  rw [h3.cell (by omega), h3.cell (by omega), (h4 q hq).1, (h4 q hq).2]
  exact ⟨rfl, rfl⟩
theorem TR.tailCell {T n e : Nat} {N : Nat → Nat} {A S : List Nat} {s : Nat} {W : World} (h : TR T n e N A (s :: S) W) {j : Nat} (hj : j + (S.length + 1) = e) :
    W.cell? ⟨T, j * 2, none⟩ = some (.iface 57 (.pointer (some ⟨N s, 0, none⟩))) ∧ W.cell? ⟨T, j * 2 + 1, none⟩ = some (.int .i32 0) := by
  obtain ⟨h1, h2, f, h3, _, h5⟩ := h
  have h6 := h5 0 (by simp)
  rw [List.length_cons] at h1
  rw [List.length_cons, show e - (S.length + 1) + 0 = j by omega] at h6
  rw [h3.cell (by omega), h3.cell (by omega), h6.1, h6.2]
  exact ⟨rfl, rfl⟩
theorem TR.fz {T n e : Nat} {N : Nat → Nat} {A S : List Nat} {W : World} (h : TR T n e N A S W) (i : Nat) : W.frozen? ⟨T, i, none⟩ = false := by
  obtain ⟨_, _, f, h3, _⟩ := h
  exact h3.frozen i
theorem TR.isCell {T n e : Nat} {N : Nat → Nat} {A S : List Nat} {W : World} (h : TR T n e N A S W) (i : Nat) (hi : i < n * 2) : ∃ v, W.cell? ⟨T, i, none⟩ = some v := by
  obtain ⟨_, _, f, h3, _⟩ := h
  exact ⟨_, h3.cell hi⟩

/-- What the sum of n terms is: the groups of equal units, each with its first spelling and its sum. -/
def Summed (κ : Nat → List Int) (us : List ByteArray) (zs : Nat → Nat) (n B c : Nat) (w : World) (e : Ending) (w' : World) : Prop :=
  Below B w w' ∧ ∃ (M vs : Nat → Nat) (T : Nat),
    (∀ q, q < (grp κ (List.range n)).length → w'.cell? ⟨M q, 0, none⟩ = some (.string (us.getD (hd (grp κ (List.range n)) q) ByteArray.empty)) ∧ w'.cell? ⟨M q, 1, none⟩ = some (.float .f64 (vs q)) ∧ Sums (((grp κ (List.range n)).getD q []).map zs) (vs q)) ∧
    ((grp κ (List.range n)).length = 1 → e = .returned (.iface 57 (.pointer (some ⟨M 0, 0, none⟩)))) ∧
    ((grp κ (List.range n)).length ≠ 1 → e = .returned (.iface 46 (.pointer (some ⟨c, 0, none⟩))) ∧ w'.cell? ⟨c, 0, none⟩ = some (.slice (some ⟨T, 0, none⟩) (grp κ (List.range n)).length n) ∧
      ∀ q, q < (grp κ (List.range n)).length → w'.cell? ⟨T, q * 2, none⟩ = some (.iface 57 (.pointer (some ⟨M q, 0, none⟩))) ∧ w'.cell? ⟨T, q * 2 + 1, none⟩ = some (.int .i32 0))

/-- A new block and two stores into block T: what lies below T stays. -/
theorem one_two {W : World} {T i j nq : Nat} {v u : Value} {o : Obj} (hT : T < W.heap.size) :
    ((((W.alloc o).drewN nq).setCell ⟨T, i, none⟩ v).setCell ⟨T, j, none⟩ u).heap.size = W.heap.size + 1 ∧
    (∀ b x, b < T → ((((W.alloc o).drewN nq).setCell ⟨T, i, none⟩ v).setCell ⟨T, j, none⟩ u).cell? ⟨b, x, none⟩ = W.cell? ⟨b, x, none⟩) ∧
    (∀ b x, b < T → ((((W.alloc o).drewN nq).setCell ⟨T, i, none⟩ v).setCell ⟨T, j, none⟩ u).frozen? ⟨b, x, none⟩ = W.frozen? ⟨b, x, none⟩) := by
  refine ⟨?_, fun b x hb => ?_, fun b x hb => ?_⟩
  · rw [World.size_setCell, World.size_setCell]
    exact World.size_alloc _ _
  · rw [cell_set_other (by show b ≠ T; omega), cell_set_other (by show b ≠ T; omega)]
    exact cell_alloc_old (w := W) (o := o) (by omega)
  · rw [fz_set_other (by show b ≠ T; omega), fz_set_other (by show b ≠ T; omega)]
    exact fz_alloc_old (w := W) (o := o) (by omega)

set_option maxHeartbeats 4000000 in
set_option maxRecDepth 100000 in
theorem sum_any (κ : Nat → List Int) (us : List ByteArray) (xs : List Nat) (fs : List Bool) (n B L c : Nat) (N : Nat → Nat) (w : World) (hn : n ≤ 1048577) (hN : Nodes false us xs fs n B L N w)
    (hc : w.cell? ⟨c, 0, none⟩ = some (.slice (some ⟨L, 0, none⟩) n n)) (hfc : w.frozen? ⟨c, 0, none⟩ = false) (hB : B ≤ c) (hcN : ∀ i, i < n → N i + b2n (fs.getD i false) < c)
    (hE : ∀ i j, i < n → j < n → ∀ W, Calls Tryz.prog 27 #[.string (us.getD i ByteArray.empty), .string (us.getD j ByteArray.empty)] W fun e w' => e = .returned (.bool (κ i == κ j)) ∧ W = w') :
    Calls Tryz.prog 23 #[.pointer (some ⟨c, 0, none⟩)] w (Summed κ us (mz xs fs n) n B c w) := by
  have HN := Lib.hid hN
  have HE := Lib.hid hE
  have hcs : c < w.heap.size := World.block_lt_of_cell? _ _ hc
  have hmk := fun W => make0 W 41 53 (.agg #[.nilIface, .int .i32 0]) 2 24 Tryz.underlying41 info53 n (by omega) (by omega)
  have HC := Lib.hid hcN
  have ha5 := fun m => run_assert_same (P := Tryz.prog) (.pointer (some ⟨m, 0, none⟩)) 45 57 59 u57
  have hb5 := fun m => run_assert_other (P := Tryz.prog) (.pointer (some ⟨m, 0, none⟩)) 45 46 57 48 u46 (by decide) z46
  clear hN hE hcN
  go_enter Tryz.func23, Tryz.ntmps23
  go_wp2_with fail
  go_loopw [3, 28] (fun t i wr => ∃ (k : Nat), k ≤ n ∧ i = .int .i64 k ∧ t = .slice (some ⟨w.heap.size, 0, none⟩) k n ∧ Hid (wr.rowIs w.heap.size 53 (n * 2) (rowT N k)) ∧ Hid (MidS us xs fs N k n L w.heap.size wr) ∧ Hid (Below B w wr) ∧ Hid (wr.cell? ⟨c, 0, none⟩ = some (.slice (some ⟨L, 0, none⟩) n n) ∧ wr.frozen? ⟨c, 0, none⟩ = false)) (fun _ i _ => n - (intOf i).toNat)
  case atStart =>
    refine ⟨0, by omega, rfl, rfl, ?_, ?_, (Below.refl _ _).alloc (by omega) _, ⟨?_, ?_⟩⟩
    · exact (rowIs_made2 w #[.nilIface, .int .i32 0] n 53 2 rfl).congr (fun i hi => by
        unfold rowT
        rcases Nat.mod_two_eq_zero_or_one i with h | h
        · rw [h, if_neg (by omega), if_neg (by omega)]; rfl
        · rw [h, if_pos rfl]; rfl)
    · have h := HN.out
      exact ⟨by rw [World.size_alloc]; omega, h.loN, h.hiN, h.mono, fun i hi => by rw [cell_alloc_old h.hiL]; exact h.row i hi, fun i hi => by rw [cell_alloc_old h.hiL]; exact h.loc i hi,
        fun i hi => by rw [cell_alloc_old (by have := h.hiN i hi; omega)]; exact h.unit i hi, fun i hi => by rw [cell_alloc_old (by have := h.hiN i hi; omega)]; exact h.num i hi,
        fun i hi => by rw [fz_alloc_old (by have := h.hiN i hi; omega)]; exact h.fz i hi, fun i hi ht => by
          have h1 := h.hiN i hi
          rw [ht] at h1
          simp only [b2n, if_pos] at h1
          rw [cell_alloc_old (by omega), fz_alloc_old (by omega)]; exact h.inn i hi ht⟩
    · rw [cell_alloc_old hcs]; exact hc
    · rw [fz_alloc_old hcs]; exact hfc
  case round =>
    obtain ⟨k, hk, rfl, rfl, hr, hM, hb, hcc⟩ := hrel
    by_cases hlt : k < n
    · have r0 := hM.out.row k hlt
      have r1 := hM.out.loc k hlt
      have t0 : wr.cell? ⟨w.heap.size, k * 2, none⟩ = some .nilIface := by
        rw [hr.out.cell (by omega)]; unfold rowT
        rw [if_neg (by omega), if_neg (by omega)]
      have t1 : wr.cell? ⟨w.heap.size, k * 2 + 1, none⟩ = some (.int .i32 0) := by
        rw [hr.out.cell (by omega)]; unfold rowT
        rw [if_pos (by omega)]
      have tf0 : wr.frozen? ⟨w.heap.size, k * 2, none⟩ = false := hr.out.frozen _
      have tf1 : wr.frozen? ⟨w.heap.size, k * 2 + 1, none⟩ = false := hr.out.frozen _
      have hTs : w.heap.size < wr.heap.size := hM.out.hiT
      have hLs : L < wr.heap.size := World.block_lt_of_cell? _ _ r1
      obtain ⟨f, ef⟩ : ∃ f, f = fs.getD k false := ⟨_, rfl⟩
      rw [← ef] at r0
      have HF := Lib.hid ef
      clear ef
      cases f
      · unfold leafV at r0
        rw [if_neg Bool.false_ne_true] at r0
        have hs := numsimp_any (N k)
        go_wp2_with fail
        refine (hs _).mono ?_
        rintro e w' ⟨rfl, rfl⟩
        go_wp2_with fail
        have hBT : B ≤ w.heap.size := by omega
        have hbz := hb.out.size
        go_roundw
        case rel =>
          obtain ⟨q1, q2, q3⟩ := two_two (W := wr) (T := w.heap.size) (i := k * 2) (j := k * 2 + 1) (v := .iface 57 (.pointer (some ⟨N k, 0, none⟩))) (u := .int .i32 0) (o1 := .cells #[.iface 57 (.pointer (some ⟨N k, 0, none⟩)), .int .i32 0] 53) (o2 := .cells #[.iface 57 (.pointer (some ⟨N k, 0, none⟩)), .int .i32 0] 53) hTs
          exact ⟨k + 1, by omega, by go_num, rfl, ((row_step hr.out).alloc _).alloc _, (hM.out.keep (by omega) q2 q3).plain HF.out.symm,
            (((hb.out.setCell hBT _).setCell hBT _).alloc (by rw [World.size_setCell, World.size_setCell]; omega) _).alloc (by rw [World.size_alloc, World.size_setCell, World.size_setCell]; omega) _,
            ⟨(q2 c 0 hcs).trans hcc.out.1, (q3 c 0 hcs).trans hcc.out.2⟩⟩
        case measure => simp [intOf]; omega
      · unfold leafV wrapT at r0
        rw [if_pos rfl, if_neg Bool.false_ne_true] at r0
        have hM1 := hM.out.hiN k hlt
        rw [← HF.out] at hM1
        simp only [b2n, if_pos] at hM1
        have hin := hM.out.inn k hlt HF.out.symm
        have hz : ∀ o, (wr.alloc o).heap.size = wr.heap.size + 1 := fun o => World.size_alloc _ _
        have hnum := hM.out.num k hlt
        unfold mz at hnum
        rw [if_neg (Nat.lt_irrefl _)] at hnum
        have hs := fun o => negsimp_any (N k) (xs.getD k 0) (wr.alloc o) (by rw [cell_alloc_old (by omega)]; exact hin.1) (by rw [fz_alloc_old (by omega)]; exact hin.2)
          (by rw [cell_alloc_old (by omega)]; exact hnum) (by rw [fz_alloc_old (by omega)]; exact hM.out.fz k hlt)
        have HS := Lib.hid hs
        clear hin hnum hs
        go_wp2_with fail
        refine (HS.out _).mono ?_
        rintro e w2 ⟨rfl, ht⟩
        have hz2 : w2.heap.size = wr.heap.size + 1 := by rw [ht.size, World.size_alloc]
        have k0 : w2.cell? ⟨wr.heap.size, 0, none⟩ = some (.iface 63 (.pointer (some ⟨N k + 1, 0, none⟩))) := by rw [ht.cells _ _ (by omega), World.cell?_alloc_new]; rfl
        have k1 : w2.cell? ⟨wr.heap.size, 1, none⟩ = some (.int .i32 0) := by rw [ht.cells _ _ (by omega), World.cell?_alloc_new]; rfl
        have kf : w2.frozen? ⟨wr.heap.size, 0, none⟩ = false := by rw [ht.fz, World.frozen?_alloc_new]
        have s0 : w2.cell? ⟨w.heap.size, k * 2, none⟩ = some .nilIface := by rw [ht.cells _ _ (by omega), cell_alloc_old hTs]; exact t0
        have s1 : w2.cell? ⟨w.heap.size, k * 2 + 1, none⟩ = some (.int .i32 0) := by rw [ht.cells _ _ (by omega), cell_alloc_old hTs]; exact t1
        have sf0 : w2.frozen? ⟨w.heap.size, k * 2, none⟩ = false := by rw [ht.fz, fz_alloc_old hTs]; exact tf0
        have sf1 : w2.frozen? ⟨w.heap.size, k * 2 + 1, none⟩ = false := by rw [ht.fz, fz_alloc_old hTs]; exact tf1
        have hne : ∀ i, (⟨wr.heap.size, 0, none⟩ : Addr) ≠ ⟨w.heap.size, i, none⟩ := fun i e => by injection e; omega
        have hne' : ∀ i, (⟨w.heap.size, i, none⟩ : Addr) ≠ ⟨wr.heap.size, 0, none⟩ := fun i e => by injection e; omega
        have HT := Lib.hid ht
        clear ht t0 t1 tf0 tf1 r0 r1
        go_wp2_with fail
        have hBT : B ≤ w.heap.size := by omega
        have hBN : B ≤ N k := by have := HN.out.lo; have := HN.out.loN k hlt; omega
        have hbz := hb.out.size
        have hcN := HC.out k hlt
        go_roundw
        case rel =>
          obtain ⟨W3, e3⟩ : ∃ W3, W3 = w2.setCell ⟨wr.heap.size, 0, none⟩ (.iface 57 (.pointer (some ⟨N k, 0, none⟩))) := ⟨_, rfl⟩
          have z3 : W3.heap.size = wr.heap.size + 1 := by rw [e3, World.size_setCell, hz2]
          have hrow : W3.rowIs w.heap.size 53 (n * 2) (rowT N k) := by
            obtain ⟨cur, h1, h2, h3⟩ := hr.out.alloc (.cells #[.iface 63 (.pointer (some ⟨N k + 1, 0, none⟩)), .int .i32 0] 53)
            refine ⟨cur, ?_, h2, h3⟩
            rw [e3, Below.heap_setCell _ _ _ _ (by show w.heap.size ≠ wr.heap.size; omega), HT.out.blocks _ (by omega) (by omega)]
            exact h1
          have hMid : MidS us xs fs N (k + 1) n L w.heap.size W3 := by
            refine (MidS.turn (hM.out.keep (W' := wr.alloc (.cells #[.iface 63 (.pointer (some ⟨N k + 1, 0, none⟩)), .int .i32 0] 53)) (by rw [hz]; omega) (fun b x h => cell_alloc_old (by omega)) (fun b x h => fz_alloc_old (by omega))) hlt HF.out.symm HT.out).keep (by rw [z3, hz2]; omega) (fun b x h => ?_) (fun b x h => ?_)
            · rw [e3, cell_set_other (by show b ≠ wr.heap.size; omega)]
            · rw [e3, fz_set_other (by show b ≠ wr.heap.size; omega)]
          have hBel : Below B w W3 := by rw [e3]; exact (HT.out.below B w (hb.out.alloc (by omega) _) hBN).setCell (by show B ≤ wr.heap.size; omega) _
          have hcc1 : W3.cell? ⟨c, 0, none⟩ = some (.slice (some ⟨L, 0, none⟩) n n) := by
            rw [e3, cell_set_other (by show c ≠ wr.heap.size; omega), HT.out.cells _ _ (by omega), cell_alloc_old (by omega)]; exact hcc.out.1
          have hcc2 : W3.frozen? ⟨c, 0, none⟩ = false := by
            rw [e3, fz_set_other (by show c ≠ wr.heap.size; omega), HT.out.fz, fz_alloc_old (by omega)]; exact hcc.out.2
          rw [← e3]
          have z4 : ((W3.setCell ⟨w.heap.size, k * 2, none⟩ (.iface 57 (.pointer (some ⟨N k, 0, none⟩)))).setCell ⟨w.heap.size, k * 2 + 1, none⟩ (.int .i32 0)).heap.size = wr.heap.size + 1 := by rw [World.size_setCell, World.size_setCell, z3]
          refine ⟨k + 1, by omega, by go_num, rfl, (row_step hrow).alloc _, hMid.keep (by rw [World.size_alloc, z4, z3]; omega) (fun b x h => ?_) (fun b x h => ?_), ((hBel.setCell hBT _).setCell hBT _).alloc (by rw [z4]; omega) _, ⟨?_, ?_⟩⟩
          · rw [cell_alloc_old (by rw [z4]; omega), cell_set_other (by show b ≠ w.heap.size; omega), cell_set_other (by show b ≠ w.heap.size; omega)]
          · rw [fz_alloc_old (by rw [z4]; omega), fz_set_other (by show b ≠ w.heap.size; omega), fz_set_other (by show b ≠ w.heap.size; omega)]
          · rw [cell_alloc_old (by rw [z4]; omega), cell_set_other (by show c ≠ w.heap.size; omega), cell_set_other (by show c ≠ w.heap.size; omega)]; exact hcc1
          · rw [fz_alloc_old (by rw [z4]; omega), fz_set_other (by show c ≠ w.heap.size; omega), fz_set_other (by show c ≠ w.heap.size; omega)]; exact hcc2
        case measure => simp [intOf]; omega
    · have ekn : k = n := by omega
      subst ekn
      have HW1 := Lib.hid hM.out.st
      have HT1 : Hid (TR w.heap.size k k N (List.range k) [] wr) := Lib.hid ⟨by simp, Nat.le_refl _, _, hr.out, fun q hq => by
        have hq' : q < k := by simpa using hq
        have e1 : (List.range k).getD q 0 = q := by rw [List.getD_eq_getElem?_getD, List.getElem?_range hq']; rfl
        rw [e1]
        unfold rowT
        rw [if_neg (by omega), if_pos (by omega), if_pos (by omega), show q * 2 / 2 = q by omega]
        exact ⟨rfl, rfl⟩, fun q hq => absurd hq (Nat.not_lt_zero _)⟩
      have HO1 := Lib.hid (Outer.start κ (mz xs fs k) k)
      have HB1 := hb
      have HC1 := hcc
      obtain ⟨T, eT⟩ : ∃ T, T = w.heap.size := ⟨_, rfl⟩
      rw [← eT] at HW1 HT1
      have hTw : c < T := by omega
      have HBT := Lib.hid (show B ≤ T by omega)
      have HTW := Lib.hid eT
      clear hr hM hb hcc hc hfc hmk
      rw [← eT]
      clear eT
      go_wp2_with fail
      go_loopw [3, 8] (fun t i W => ∃ (q e : Nat) (GD : List (List Nat)) (D R : List Nat) (ws : Nat → Nat), Hid (D.length = q ∧ q + R.length = e) ∧ q ≤ e ∧ e ≤ k ∧ i = .int .i64 q ∧ t = .slice (some ⟨T, 0, none⟩) e k ∧ Hid (Outer κ (mz xs fs k) ws k GD D R) ∧
        Hid (TR T k e N (D ++ R) [] W) ∧ Hid (St us N ws k T W) ∧ Hid (Below B w W) ∧ Hid (W.cell? ⟨c, 0, none⟩ = some (.slice (some ⟨L, 0, none⟩) k k) ∧ W.frozen? ⟨c, 0, none⟩ = false)) (fun _ i _ => k - (intOf i).toNat)
      case atStart => exact ⟨0, k, [], [], List.range k, mz xs fs k, ⟨rfl, by simp⟩, by omega, Nat.le_refl _, rfl, rfl, HO1.out, HT1.out, HW1.out, HB1.out, HC1.out⟩
      case round =>
        obtain ⟨q, e, GD, D, R, ws, hl, hqe, hek, rfl, rfl, hO, hT, hW, hb, hcc⟩ := hrel
        by_cases hlt : q < e
        · obtain ⟨a, R', rfl⟩ : ∃ a R', R = a :: R' := by
            have := hl.out.2
            cases R with
            | nil => simp at this; omega
            | cons a R' => exact ⟨a, R', rfl⟩
          have hl2 : q + (R'.length + 1) = e := by have := hl.out.2; rw [List.length_cons] at this; exact this
          have hca := hT.out.headCell (q := q) (by rw [List.length_append, List.length_cons, hl.out.1]; omega)
          have ega : (D ++ a :: R').getD q 0 = a := by rw [getD_append_right (by rw [hl.out.1]; exact Nat.le_refl _), hl.out.1, Nat.sub_self]; rfl
          rw [ega] at hca
          have g0 := hca.1
          have g1 := hca.2
          have ha : a < k := hO.out.lt a (by simp)
          have hRk : ∀ m, m ∈ R' → m < k ∧ m ≠ a := fun m hm => ⟨hO.out.lt m (by simp [hm]), fun em => by
            have := hO.out.nodup
            rw [List.nodup_append] at this
            subst em
            exact (List.nodup_cons.1 this.2.1).1 hm⟩
          have HRk := Lib.hid hRk
          have hqei : (q : Int) < (e : Int) := by omega
          have hTW : T < wr.heap.size := hW.out.hiT
          have HL2 := Lib.hid hl2
          have hTR0 : TR T k e N (D ++ [a]) R' wr := TR.split (by rw [List.append_assoc]; exact hT.out) (by rw [List.append_assoc, List.length_append]; simp; have := hl.out.1; omega)
          have HTR0 := Lib.hid hTR0
          clear hca ega hRk hTR0
          go_wp2_with fail
          obtain ⟨Wa, eWa⟩ : ∃ Wa, Wa = wr := ⟨_, rfl⟩
          subst eWa
          have hbz := hb.out.size
          go_loopw [12, 13] (fun d j wr => ∃ (dn jn v : Nat) (P S A : List Nat), Hid (P ++ S = R') ∧ Hid (A = D ++ [a] ++ P.filter (fun x => !(κ x == κ a)) ∧ A.length = dn) ∧ Hid (jn + S.length = e) ∧ dn ≤ jn ∧ jn ≤ e ∧ d = .int .i64 dn ∧ j = .int .i64 jn ∧
            Hid (TR T k e N A S wr) ∧ Hid (St us N (fun i => if i = a then v else ws i) k T wr) ∧ Hid (Sums ((a :: P.filter (fun x => κ x == κ a)).map (mz xs fs k)) v) ∧ Hid (Below B w wr) ∧ Hid (wr.cell? ⟨c, 0, none⟩ = some (.slice (some ⟨L, 0, none⟩) k k) ∧ wr.frozen? ⟨c, 0, none⟩ = false)) (fun _ j _ => k - (intOf j).toNat)
          case atStart =>
            refine ⟨q + 1, q + 1, ws a, [], R', D ++ [a], rfl, ⟨by simp, by simp [hl.out.1]⟩, by show q + 1 + R'.length = e; omega, Nat.le_refl _, by omega, by go_num, by go_num, HTR0.out.alloc _, ?_, ?_, hb.out.alloc (by omega) _, ⟨?_, ?_⟩⟩
            · refine (hW.out.keep (by rw [World.size_alloc]; omega) (fun b x h => cell_alloc_old (Nat.lt_trans h hTW)) (fun b x h => fz_alloc_old (Nat.lt_trans h hTW))).congr (fun i hi => ?_)
              by_cases h1 : i = a
              · subst h1; rw [if_pos rfl]
              · rw [if_neg h1]
            · show Sums [mz xs fs k a] (ws a)
              rw [hO.out.raw a (by simp)]
              exact Sums.one _
            · rw [cell_alloc_old (by omega)]; exact hcc.out.1
            · rw [fz_alloc_old (by omega)]; exact hcc.out.2
          case round =>
            clear g0 g1
            obtain ⟨dn, jn, v, P, S, A, hPS, hA, hjS, hdj, hje, rfl, rfl, hT2, hW2, hS2, hb2, hcc2⟩ := hrel
            have hTW2 := hW2.out.hiT
            have hbz2 := hb2.out.size
            by_cases hlt2 : jn < e
            · obtain ⟨s, S', rfl⟩ : ∃ s S', S = s :: S' := by
                have := hjS.out
                cases S with
                | nil => simp at this; omega
                | cons s S' => exact ⟨s, S', rfl⟩
              have hjS2 : jn + (S'.length + 1) = e := by have := hjS.out; rw [List.length_cons] at this; exact this
              obtain ⟨g0, g1⟩ := hT2.out.tailCell hjS2
              have hsR : s ∈ R' := by rw [← hPS.out]; simp
              obtain ⟨hsk, hsa⟩ := HRk.out s hsR
              have hNs := hW2.out.lt s hsk
              have hNa := hW2.out.lt a ha
              have hNs1 := Nat.lt_trans hNs hTW2
              have hNa1 := Nat.lt_trans hNa hTW2
              have hNe := hW2.out.inj s a hsk ha hsa
              have m0 := hW2.out.unit s hsk
              have m1 := hW2.out.num s hsk
              have n0 := hW2.out.unit a ha
              have n1 := hW2.out.num a ha
              have nf := hW2.out.fz a ha
              simp only [if_pos, if_neg hsa] at m1 n1
              rw [hO.out.raw s (List.mem_cons_of_mem _ hsR)] at m1
              obtain ⟨us', eus⟩ : ∃ u, u = us.getD s ByteArray.empty := ⟨_, rfl⟩
              obtain ⟨ua', eua⟩ : ∃ u, u = us.getD a ByteArray.empty := ⟨_, rfl⟩
              obtain ⟨z, ez⟩ : ∃ z, z = mz xs fs k s := ⟨_, rfl⟩
              rw [← eus] at m0
              rw [← eua] at n0
              rw [← ez] at m1
              have hef := HE.out s a hsk ha
              rw [← eus, ← eua] at hef
              have HEF := Lib.hid hef
              have HEZ := Lib.hid ez
              have hf := fun (t : TypeId) (W : World) => run_fop (P := Tryz.prog) (Or.inr (Or.inr rfl)) t v z W
              have hjei : (jn : Int) < (e : Int) := by omega
              clear eus eua hef ez
              cases hk2 : (κ s == κ a)
              · rw [hk2] at HEF
                go_wp2_with fail
                go_quiet (first | (go_at_call 27; exact Calls.quiet_of_same ((HEF.out _).mono fun _ _ h => ⟨h.1, h.2.symm⟩)))
                obtain ⟨v0, hv0⟩ := hT2.out.isCell (dn * 2) (by omega)
                obtain ⟨v1, hv1⟩ := hT2.out.isCell (dn * 2 + 1) (by omega)
                have sf0 := hT2.out.fz (dn * 2)
                have sf1 := hT2.out.fz (dn * 2 + 1)
                have hdn : (dn : Int) < (e : Int) := by omega
                go_wp2_with fail
                have hBT2 := HBT.out
                have z4 : ((wr.setCell ⟨T, dn * 2, none⟩ (.iface 57 (.pointer (some ⟨N s, 0, none⟩)))).setCell ⟨T, dn * 2 + 1, none⟩ (.int .i32 0)).heap.size = wr.heap.size := by rw [World.size_setCell, World.size_setCell]
                go_roundw
                case rel =>
                  obtain ⟨z1, z2, z3⟩ := one_two (W := wr) (T := T) (i := dn * 2) (j := dn * 2 + 1) (nq := nq) (v := .iface 57 (.pointer (some ⟨N s, 0, none⟩))) (u := .int .i32 0) (o := .cells #[.iface 57 (.pointer (some ⟨N s, 0, none⟩)), .int .i32 0] 53) hTW2
                  have hmv := ((hT2.out.alloc (.cells #[.iface 57 (.pointer (some ⟨N s, 0, none⟩)), .int .i32 0] 53)).drewN nq).move
                  rw [hA.out.2] at hmv
                  have e1 : [s].filter (fun x => !(κ x == κ a)) = [s] := by simp [hk2]
                  have e2 : [s].filter (fun x => κ x == κ a) = [] := by simp [hk2]
                  refine ⟨dn + 1, jn + 1, v, P ++ [s], S', A ++ [s], ?_, ⟨?_, ?_⟩, ?_, by omega, by omega, by go_num, by go_num, hmv, hW2.out.keep (by rw [z1]; omega) z2 z3, ?_, ?_, ⟨?_, ?_⟩⟩
                  · show P ++ [s] ++ S' = R'
                    rw [List.append_assoc]; exact hPS.out
                  · rw [hA.out.1, List.filter_append, e1, List.append_assoc, List.append_assoc]
                  · rw [List.length_append, hA.out.2]; rfl
                  · show jn + 1 + S'.length = e
                    omega
                  · show Sums ((a :: (P ++ [s]).filter _).map _) v
                    rw [List.filter_append, e2, List.append_nil]; exact hS2.out
                  · exact ((below_drewN (hb2.out.alloc (by omega) _) _).setCell hBT2 _).setCell hBT2 _
                  · rw [z2 _ _ hTw]; exact hcc2.out.1
                  · rw [z3 _ _ hTw]; exact hcc2.out.2
                case measure => simp [intOf]; omega
              · rw [hk2] at HEF
                go_wp2_with fail
                go_quiet (first | (go_at_call 27; exact Calls.quiet_of_same ((HEF.out _).mono fun _ _ h => ⟨h.1, h.2.symm⟩)))
                go_wp2_with fail
                go_region
                go_wp2_with fail
                go_roundw
                case rel =>
                  have hBa : B ≤ N a := by have := HN.out.lo; have := HN.out.loN a ha; omega
                  have hac := HC.out a ha
                  have e1 : [s].filter (fun x => !(κ x == κ a)) = [] := by simp [hk2]
                  have e2 : [s].filter (fun x => κ x == κ a) = [s] := by simp [hk2]
                  refine ⟨dn, jn + 1, fR .add v z ((wr.alloc (.cells #[.iface 57 (.pointer (some ⟨N s, 0, none⟩)), .int .i32 0] 53)).drewN (nq + 1)), P ++ [s], S', A, ?_, ⟨?_, hA.out.2⟩, ?_, by omega, by omega, rfl, by go_num, (((hT2.out.skip).alloc _).drewN _).other (by show T ≠ N a; omega),
                    St.congr (St.set (hW2.out.keep (by show _ ≤ (World.alloc _ _).heap.size; rw [World.size_alloc]; omega) (fun b x h => by show (World.alloc _ _).cell? _ = _; exact cell_alloc_old (Nat.lt_trans h hTW2)) (fun b x h => by show (World.alloc _ _).frozen? _ = _; exact fz_alloc_old (Nat.lt_trans h hTW2))) ha) (fun i hi => ?_), ?_, ?_, ⟨?_, ?_⟩⟩
                  · show P ++ [s] ++ S' = R'
                    rw [List.append_assoc]; exact hPS.out
                  · rw [hA.out.1, List.filter_append, e1, List.append_nil]
                  · show jn + 1 + S'.length = e
                    omega
                  · by_cases h1 : i = a
                    · simp [h1]
                    · simp [h1]
                  · show Sums ((a :: (P ++ [s]).filter _).map _) _
                    rw [List.filter_append, e2, ← List.cons_append, List.map_append, HEZ.out]
                    exact Sums.snoc _ (mz xs fs k s) v _ hS2.out
                  · exact (below_drewN (hb2.out.alloc (by omega) _) _).setCell hBa _
                  · rw [cell_set_other (by show c ≠ N a; omega)]
                    exact (cell_alloc_old (w := wr) (by omega)).trans hcc2.out.1
                  · rw [fz_set_other (by show c ≠ N a; omega)]
                    exact (fz_alloc_old (w := wr) (by omega)).trans hcc2.out.2
                case measure => simp [intOf]; omega
            · have ejn : jn = e := by omega
              subst ejn
              have hS0 : S = [] := List.eq_nil_of_length_eq_zero (by have := hjS.out; omega)
              subst hS0
              have hdn2 : (dn : Int) ≤ (k : Int) := by omega
              go_wp2_with fail
              go_roundw
              case rel =>
                have hP : P = R' := by have := hPS.out; rw [List.append_nil] at this; exact this
                subst hP
                have hs := hO.out.step hS2.out
                have hAl : q + 1 + (P.filter (fun x => !(κ x == κ a))).length = dn := by
                  have := hA.out.2
                  rw [hA.out.1] at this
                  simp [hl.out.1] at this
                  omega
                have hcut := hT2.out.cut
                rw [hA.out.2, hA.out.1] at hcut
                exact ⟨q + 1, dn, _, D ++ [a], _, _, ⟨by simp [hl.out.1], hAl⟩, by omega, by omega, by go_num, rfl, hs, hcut, hW2.out, hb2.out, hcc2.out⟩
              case measure => simp [intOf]; omega
        · have eqe : q = e := by omega
          subst eqe
          by_cases h1 : q = 1
          · subst h1
            have hR0 : R = [] := List.eq_nil_of_length_eq_zero (by have := hl.out.2; omega)
            subst hR0
            obtain ⟨g0, g1⟩ := hT.out.headCell (q := 0) (by rw [List.length_append, hl.out.1]; omega)
            go_wp2_with fail
            go_ret
            have hG : grp κ (List.range k) = GD := by rw [hO.out.grp, grp_nil, List.append_nil]
            unfold Summed
            rw [hG]
            have hgl : GD.length = D.length := hO.out.len.symm
            refine ⟨hb.out, fun q => N (D.getD q 0), fun q => ws (hd GD q), T, fun j hj => ?_, fun _ => rfl, fun h => absurd (by rw [hgl, hl.out.1]) h⟩
            have hDj := hO.out.head j hj
            have hjk : hd GD j < k := hO.out.lt _ (by
              rw [← hDj, List.append_nil, List.getD_eq_getElem?_getD, List.getElem?_eq_getElem (by omega)]
              exact List.getElem_mem _)
            dsimp only
            rw [hDj]
            exact ⟨hW.out.unit _ hjk, hW.out.num _ hjk, hO.out.sum j hj⟩
          · have hq1 : ((q : Int) == 1) = false := by simp; omega
            have c0 := hcc.out.1
            have c1 := hcc.out.2
            go_wp2_with fail
            go_ret
            have hR0 : R = [] := List.eq_nil_of_length_eq_zero (by have := hl.out.2; omega)
            subst hR0
            have hG : grp κ (List.range k) = GD := by rw [hO.out.grp, grp_nil, List.append_nil]
            unfold Summed
            rw [hG]
            have hgl : GD.length = D.length := hO.out.len.symm
            refine ⟨hb.out.setCell hB _, fun q => N (D.getD q 0), fun q => ws (hd GD q), T, fun j hj => ?_, fun h => absurd (by rw [← h, hgl, hl.out.1]) h1, fun _ => ⟨rfl, ?_, fun j hj => ?_⟩⟩
            rotate_left
            · rw [World.cell?_setCell_same' _ _ _ (by rw [c0]; rfl), hgl, hl.out.1]
            · rw [cell_set_other (by show T ≠ c; omega), cell_set_other (by show T ≠ c; omega)]
              have h2 := hT.out.headCell (q := j) (by rw [List.length_append, ← hgl]; exact Nat.lt_of_lt_of_le hj (Nat.le_add_right _ _))
              rw [List.append_nil] at h2
              exact h2
            have hDj := hO.out.head j hj
            have hjk : hd GD j < k := hO.out.lt _ (by
              rw [← hDj, List.append_nil, List.getD_eq_getElem?_getD, List.getElem?_eq_getElem (by omega)]
              exact List.getElem_mem _)
            dsimp only
            rw [hDj]
            exact ⟨by rw [cell_set_other (by show _ ≠ c; have := HC.out _ hjk; omega)]; exact hW.out.unit _ hjk, by rw [cell_set_other (by show _ ≠ c; have := HC.out _ hjk; omega)]; exact hW.out.num _ hjk, hO.out.sum j hj⟩
end Go.Proofs.YtnoghiefpdbpbaaGreatFmt
