/-
  The product of a calc expression, walked.
-/
import Derived.Test.YtnoghiefpdbpbaaGreatFmtF
namespace Go.Proofs.YtnoghiefpdbpbaaGreatFmt
open Go.RowKit Go.Deep

theorem row_step {W : World} {T n k : Nat} {N : Nat → Nat} (hr : W.rowIs T 53 (n * 2) (rowT N k)) :
    ((W.setCell ⟨T, k * 2, none⟩ (.iface 57 (.pointer (some ⟨N k, 0, none⟩)))).setCell ⟨T, k * 2 + 1, none⟩ (.int .i32 0)).rowIs T 53 (n * 2) (rowT N (k + 1)) := by
  refine ((hr.set (k * 2) (.iface 57 (.pointer (some ⟨N k, 0, none⟩)))).set (k * 2 + 1) (.int .i32 0)).congr (fun j _ => ?_)
  rw [← rowT_set]
  by_cases h0 : j = k * 2
  · subst h0; rw [if_neg (by omega), if_pos rfl, if_pos rfl]
  · by_cases h1 : j = k * 2 + 1
    · subst h1; rw [if_pos rfl, if_neg (by omega), if_pos rfl]
    · rw [if_neg h1, if_neg h0, if_neg h0, if_neg h1]

/-- Two stores into block T and two new blocks: what lies below T stays. -/
theorem two_two {W : World} {T i j : Nat} {v u : Value} {o1 o2 : Obj} (hT : T < W.heap.size) :
    ((((W.setCell ⟨T, i, none⟩ v).setCell ⟨T, j, none⟩ u).alloc o1).alloc o2).heap.size = W.heap.size + 2 ∧
    (∀ b x, b < T → ((((W.setCell ⟨T, i, none⟩ v).setCell ⟨T, j, none⟩ u).alloc o1).alloc o2).cell? ⟨b, x, none⟩ = W.cell? ⟨b, x, none⟩) ∧
    (∀ b x, b < T → ((((W.setCell ⟨T, i, none⟩ v).setCell ⟨T, j, none⟩ u).alloc o1).alloc o2).frozen? ⟨b, x, none⟩ = W.frozen? ⟨b, x, none⟩) := by
  have z : ((W.setCell ⟨T, i, none⟩ v).setCell ⟨T, j, none⟩ u).heap.size = W.heap.size := by rw [World.size_setCell, World.size_setCell]
  refine ⟨by rw [World.size_alloc, World.size_alloc, z], fun b x hb => ?_, fun b x hb => ?_⟩
  · rw [cell_alloc_old (by rw [World.size_alloc, z]; omega), cell_alloc_old (by rw [z]; omega), cell_set_other (by show b ≠ T; omega), cell_set_other (by show b ≠ T; omega)]
  · rw [fz_alloc_old (by rw [World.size_alloc, z]; omega), fz_alloc_old (by rw [z]; omega), fz_set_other (by show b ≠ T; omega), fz_set_other (by show b ≠ T; omega)]

/-- The rows of the slice while the numbers are folded: the dimension's row comes to place 1 once it is passed. -/
def rowD (N : Nat → Nat) (p kk j : Nat) : Value := if j % 2 = 1 then .int .i32 0 else if j / 2 = 1 ∧ p < kk then .iface 57 (.pointer (some ⟨N p, 0, none⟩)) else .iface 57 (.pointer (some ⟨N (j / 2), 0, none⟩))

/-- What the product of n terms is, of which all but the one at place p are plain numbers: nothing, a node whose number is the product, or the dimension's node scaled. -/
def Prod (us : List ByteArray) (xs : List Nat) (fs : List Bool) (n p B c : Nat) (w : World) (e : Ending) (w' : World) : Prop :=
  Below B w w' ∧
  (n = 0 → e = .returned (.iface 55 (.pointer (some ⟨c, 0, none⟩))) ∧ ∃ a cap, w'.cell? ⟨c, 0, none⟩ = some (.slice a 0 cap)) ∧
  (0 < n → ∃ (zs : Nat → Nat) (q v : Nat) (u : ByteArray), (∀ i, i < n → ∃ W0, zs i = fac (xs.getD i 0) (fs.getD i false) W0) ∧
    e = .returned (.iface 57 (.pointer (some ⟨q, 0, none⟩))) ∧ w'.cell? ⟨q, 0, none⟩ = some (.string u) ∧ w'.cell? ⟨q, 1, none⟩ = some (.float .f64 v) ∧
    (n ≤ p → u = ⟨#[]⟩ ∧ Prods ((idx p n).map zs) v) ∧
    (p < n → u = us.getD p ByteArray.empty ∧ (n = 1 → v = zs p) ∧ (1 < n → ∃ P W, Prods ((idx p n).map zs) P ∧ v = fR .mul (zs p) P W)))

set_option maxHeartbeats 4000000 in
set_option maxRecDepth 100000 in
theorem product_any (us : List ByteArray) (xs : List Nat) (fs : List Bool) (n B L c : Nat) (N : Nat → Nat) (w : World) (hn : n ≤ 1048577) (hN : Nodes true us xs fs n B L N w)
    (hc : w.cell? ⟨c, 0, none⟩ = some (.slice (some ⟨L, 0, none⟩) n n)) (hfc : w.frozen? ⟨c, 0, none⟩ = false) (hB : B ≤ c) (hcN : ∀ i, i < n → N i + b2n (fs.getD i false) < c)
    (hu : ∀ i, i < n → fs.getD i false = true → us.getD i ByteArray.empty = ⟨#[]⟩)
    (p : Nat) (hp : ∀ i, i < n → (us.getD i ByteArray.empty = ⟨#[]⟩ ↔ i ≠ p)) :
    Calls Tryz.prog 25 #[.pointer (some ⟨c, 0, none⟩)] w (Prod us xs fs n p B c w) := by
  have HN := Lib.hid hN
  have HU := Lib.hid hu
  have HP := Lib.hid hp
  have hcs : c < w.heap.size := World.block_lt_of_cell? _ _ hc
  have hmk := fun W => make0 W 41 53 (.agg #[.nilIface, .int .i32 0]) 2 24 Tryz.underlying41 info53 n (by omega) (by omega)
  have HC := Lib.hid hcN
  have ha5 := fun m => run_assert_same (P := Tryz.prog) (.pointer (some ⟨m, 0, none⟩)) 45 57 59 u57
  have hb5 := fun m => run_assert_other (P := Tryz.prog) (.pointer (some ⟨m, 0, none⟩)) 45 55 57 56 u55 (by decide) z55
  clear hN hu hcN hp
  go_enter Tryz.func25, Tryz.ntmps25
  go_wp2_with fail
  go_loopw [3, 40] (fun t i wr => ∃ (k : Nat) (zs : Nat → Nat), k ≤ n ∧ i = .int .i64 k ∧ t = .slice (some ⟨w.heap.size, 0, none⟩) k n ∧ Hid (wr.rowIs w.heap.size 53 (n * 2) (rowT N k)) ∧ Hid (Mid us xs fs N zs k n L w.heap.size wr) ∧ Hid (Below B w wr) ∧ Hid (wr.cell? ⟨c, 0, none⟩ = some (.slice (some ⟨L, 0, none⟩) n n) ∧ wr.frozen? ⟨c, 0, none⟩ = false)) (fun _ i _ => n - (intOf i).toNat)
  case atStart =>
    refine ⟨0, fun i => xs.getD i 0, by omega, rfl, rfl, ?_, ?_, (Below.refl _ _).alloc (by omega) _, ⟨?_, ?_⟩⟩
    · exact (rowIs_made2 w #[.nilIface, .int .i32 0] n 53 2 rfl).congr (fun i hi => by
        unfold rowT
        rcases Nat.mod_two_eq_zero_or_one i with h | h
        · rw [h, if_neg (by omega), if_neg (by omega)]; rfl
        · rw [h, if_pos rfl]; rfl)
    · have h := HN.out
      exact ⟨by rw [World.size_alloc]; omega, h.loN, h.hiN, h.mono, fun i hi => by rw [cell_alloc_old h.hiL]; exact h.row i hi, fun i hi => by rw [cell_alloc_old h.hiL]; exact h.loc i hi,
        fun i hi => by rw [cell_alloc_old (by have := h.hiN i hi; omega)]; exact h.unit i hi, fun i hi => by rw [cell_alloc_old (by have := h.hiN i hi; omega)]; exact h.num i hi,
        fun i hi => by rw [fz_alloc_old (by have := h.hiN i hi; omega)]; exact h.fz i hi, fun i hi ht => by
          have h1 := h.hiN i hi
          rw [ht] at h1
          simp only [b2n, if_pos] at h1
          rw [cell_alloc_old (by omega), fz_alloc_old (by omega)]; exact h.inn i hi ht, fun i _ => rfl, fun i hi => by omega⟩
    · rw [cell_alloc_old hcs]; exact hc
    · rw [fz_alloc_old hcs]; exact hfc
  case round =>
    obtain ⟨k, zs, hk, rfl, rfl, hr, hM, hb, hcc⟩ := hrel
    by_cases hlt : k < n
    · have r0 := hM.out.row k hlt
      have r1 := hM.out.loc k hlt
      have t0 : wr.cell? ⟨w.heap.size, k * 2, none⟩ = some .nilIface := by
        rw [hr.out.cell (by omega)]; unfold rowT
        rw [if_neg (by omega), if_neg (by omega)]
      have t1 : wr.cell? ⟨w.heap.size, k * 2 + 1, none⟩ = some (.int .i32 0) := by
        rw [hr.out.cell (by omega)]; unfold rowT
        rw [if_pos (by omega)]
      have tf0 : wr.frozen? ⟨w.heap.size, k * 2, none⟩ = false := hr.out.frozen _
      have tf1 : wr.frozen? ⟨w.heap.size, k * 2 + 1, none⟩ = false := hr.out.frozen _
      have hTs : w.heap.size < wr.heap.size := hM.out.hiT
      have hLs : L < wr.heap.size := World.block_lt_of_cell? _ _ r1
      obtain ⟨f, ef⟩ : ∃ f, f = fs.getD k false := ⟨_, rfl⟩
      rw [← ef] at r0
      have HE := Lib.hid ef
      clear ef
      cases f
      · unfold leafV at r0
        rw [if_neg Bool.false_ne_true] at r0
        have hs := numsimp_any (N k)
        go_wp2_with fail
        refine (hs _).mono ?_
        rintro e w' ⟨rfl, rfl⟩
        go_wp2_with fail
        have hBT : B ≤ w.heap.size := by omega
        have hbz := hb.out.size
        go_roundw
        case rel =>
          obtain ⟨q1, q2, q3⟩ := two_two (W := wr) (T := w.heap.size) (i := k * 2) (j := k * 2 + 1) (v := .iface 57 (.pointer (some ⟨N k, 0, none⟩))) (u := .int .i32 0) (o1 := .cells #[.iface 57 (.pointer (some ⟨N k, 0, none⟩)), .int .i32 0] 53) (o2 := .cells #[.iface 57 (.pointer (some ⟨N k, 0, none⟩)), .int .i32 0] 53) hTs
          exact ⟨k + 1, zs, by omega, by go_num, rfl, ((row_step hr.out).alloc _).alloc _, (hM.out.keep (by omega) q2 q3).plain HE.out.symm,
            (((hb.out.setCell hBT _).setCell hBT _).alloc (by rw [World.size_setCell, World.size_setCell]; omega) _).alloc (by rw [World.size_alloc, World.size_setCell, World.size_setCell]; omega) _,
            ⟨(q2 c 0 hcs).trans hcc.out.1, (q3 c 0 hcs).trans hcc.out.2⟩⟩
        case measure => simp [intOf]; omega
      · unfold leafV wrapT at r0
        rw [if_pos rfl, if_pos rfl] at r0
        have hM1 := hM.out.hiN k hlt
        rw [← HE.out] at hM1
        simp only [b2n, if_pos] at hM1
        have hin := hM.out.inn k hlt HE.out.symm
        have hz : ∀ o, (wr.alloc o).heap.size = wr.heap.size + 1 := fun o => World.size_alloc _ _
        have hunit := hM.out.unit k hlt
        rw [HU.out k hlt HE.out.symm] at hunit
        have hs := fun o => invsimp_any (N k) (zs k) (wr.alloc o) (by rw [cell_alloc_old (by omega)]; exact hin.1) (by rw [fz_alloc_old (by omega)]; exact hin.2)
          (by rw [cell_alloc_old (by omega)]; exact hunit) (by rw [cell_alloc_old (by omega)]; exact hM.out.num k hlt) (by rw [fz_alloc_old (by omega)]; exact hM.out.fz k hlt)
        have HS := Lib.hid hs
        clear hin hunit hs
        go_wp2_with fail
        refine (HS.out _).mono ?_
        rintro e w2 ⟨W0, rfl, ht⟩
        have hz2 : w2.heap.size = wr.heap.size + 1 := by rw [ht.size, World.size_alloc]
        have k0 : w2.cell? ⟨wr.heap.size, 0, none⟩ = some (.iface 60 (.pointer (some ⟨N k + 1, 0, none⟩))) := by rw [ht.cells _ _ (by omega), World.cell?_alloc_new]; rfl
        have k1 : w2.cell? ⟨wr.heap.size, 1, none⟩ = some (.int .i32 0) := by rw [ht.cells _ _ (by omega), World.cell?_alloc_new]; rfl
        have kf : w2.frozen? ⟨wr.heap.size, 0, none⟩ = false := by rw [ht.fz, World.frozen?_alloc_new]
        have s0 : w2.cell? ⟨w.heap.size, k * 2, none⟩ = some .nilIface := by rw [ht.cells _ _ (by omega), cell_alloc_old hTs]; exact t0
        have s1 : w2.cell? ⟨w.heap.size, k * 2 + 1, none⟩ = some (.int .i32 0) := by rw [ht.cells _ _ (by omega), cell_alloc_old hTs]; exact t1
        have sf0 : w2.frozen? ⟨w.heap.size, k * 2, none⟩ = false := by rw [ht.fz, fz_alloc_old hTs]; exact tf0
        have sf1 : w2.frozen? ⟨w.heap.size, k * 2 + 1, none⟩ = false := by rw [ht.fz, fz_alloc_old hTs]; exact tf1
        have hne : ∀ i, (⟨wr.heap.size, 0, none⟩ : Addr) ≠ ⟨w.heap.size, i, none⟩ := fun i e => by injection e; omega
        have hne' : ∀ i, (⟨w.heap.size, i, none⟩ : Addr) ≠ ⟨wr.heap.size, 0, none⟩ := fun i e => by injection e; omega
        have HT := Lib.hid ht
        clear ht t0 t1 tf0 tf1 r0 r1
        go_wp2_with fail
        have hBT : B ≤ w.heap.size := by omega
        have hBN : B ≤ N k := by have := HN.out.lo; have := HN.out.loN k hlt; omega
        have hbz := hb.out.size
        have hcN := HC.out k hlt
        go_roundw
        case rel =>
          obtain ⟨W3, e3⟩ : ∃ W3, W3 = w2.setCell ⟨wr.heap.size, 0, none⟩ (.iface 57 (.pointer (some ⟨N k, 0, none⟩))) := ⟨_, rfl⟩
          have z3 : W3.heap.size = wr.heap.size + 1 := by rw [e3, World.size_setCell, hz2]
          have hrow : W3.rowIs w.heap.size 53 (n * 2) (rowT N k) := by
            obtain ⟨cur, h1, h2, h3⟩ := hr.out.alloc (.cells #[.iface 60 (.pointer (some ⟨N k + 1, 0, none⟩)), .int .i32 0] 53)
            refine ⟨cur, ?_, h2, h3⟩
            rw [e3, Below.heap_setCell _ _ _ _ (by show w.heap.size ≠ wr.heap.size; omega), HT.out.blocks _ (by omega) (by omega)]
            exact h1
          have hMid : Mid us xs fs N (fun i => if i = k then fR .quo one (zs k) W0 else zs i) (k + 1) n L w.heap.size W3 := by
            refine (Mid.turn (hM.out.keep (W' := wr.alloc (.cells #[.iface 60 (.pointer (some ⟨N k + 1, 0, none⟩)), .int .i32 0] 53)) (by rw [hz]; omega) (fun b x h => cell_alloc_old (by omega)) (fun b x h => fz_alloc_old (by omega))) hlt HE.out.symm HT.out).keep (by rw [z3, hz2]; omega) (fun b x h => ?_) (fun b x h => ?_)
            · rw [e3, cell_set_other (by show b ≠ wr.heap.size; omega)]
            · rw [e3, fz_set_other (by show b ≠ wr.heap.size; omega)]
          have hBel : Below B w W3 := by rw [e3]; exact (HT.out.below B w (hb.out.alloc (by omega) _) hBN).setCell (by show B ≤ wr.heap.size; omega) _
          have hcc1 : W3.cell? ⟨c, 0, none⟩ = some (.slice (some ⟨L, 0, none⟩) n n) := by
            rw [e3, cell_set_other (by show c ≠ wr.heap.size; omega), HT.out.cells _ _ (by omega), cell_alloc_old (by omega)]; exact hcc.out.1
          have hcc2 : W3.frozen? ⟨c, 0, none⟩ = false := by
            rw [e3, fz_set_other (by show c ≠ wr.heap.size; omega), HT.out.fz, fz_alloc_old (by omega)]; exact hcc.out.2
          rw [← e3]
          have z4 : ((W3.setCell ⟨w.heap.size, k * 2, none⟩ (.iface 57 (.pointer (some ⟨N k, 0, none⟩)))).setCell ⟨w.heap.size, k * 2 + 1, none⟩ (.int .i32 0)).heap.size = wr.heap.size + 1 := by rw [World.size_setCell, World.size_setCell, z3]
          refine ⟨k + 1, _, by omega, by go_num, rfl, (row_step hrow).alloc _, hMid.keep (by rw [World.size_alloc, z4, z3]; omega) (fun b x h => ?_) (fun b x h => ?_), ((hBel.setCell hBT _).setCell hBT _).alloc (by rw [z4]; omega) _, ⟨?_, ?_⟩⟩
          · rw [cell_alloc_old (by rw [z4]; omega), cell_set_other (by show b ≠ w.heap.size; omega), cell_set_other (by show b ≠ w.heap.size; omega)]
          · rw [fz_alloc_old (by rw [z4]; omega), fz_set_other (by show b ≠ w.heap.size; omega), fz_set_other (by show b ≠ w.heap.size; omega)]
          · rw [cell_alloc_old (by rw [z4]; omega), cell_set_other (by show c ≠ w.heap.size; omega), cell_set_other (by show c ≠ w.heap.size; omega)]; exact hcc1
          · rw [fz_alloc_old (by rw [z4]; omega), fz_set_other (by show c ≠ w.heap.size; omega), fz_set_other (by show c ≠ w.heap.size; omega)]; exact hcc2
        case measure => simp [intOf]; omega
    · have ekn : k = n := by omega
      subst ekn
      by_cases h0 : k = 0
      · subst h0
        have hcc1 := hcc.out.1
        have hcc2 := hcc.out.2
        have hbo := hb.out
        go_wp2_with fail
        refine wp_loop_rounds 1 ?_
        rw [rounds_succ]
        go_wp2_with fail
        refine wp_loop_rounds 1 ?_
        rw [rounds_succ]
        go_wp2_with fail
        go_ret
        exact ⟨hbo.setCell hB _, fun _ => ⟨rfl, _, _, World.cell?_setCell_same' _ _ _ (by rw [hcc1]; rfl)⟩, fun h => by omega⟩
      · have hS := hM.out.st
        have hnew := Lib.hid hM.out.new
        have hrow : wr.rowIs w.heap.size 53 (k * 2) (rowD N p 0) := hr.out.congr (fun j hj => by
          unfold rowT rowD
          by_cases ho : j % 2 = 1
          · rw [if_pos ho, if_pos ho]
          · rw [if_neg ho, if_neg ho, if_pos (by omega), if_neg (by omega)])
        have HR := Lib.hid hrow
        have HS := Lib.hid hS
        clear hrow hS
        by_cases hp0 : p = 0
        · subst hp0
          have hpos : 0 < k := by omega
          have t0 : wr.cell? ⟨w.heap.size, 0, none⟩ = some (.iface 57 (.pointer (some ⟨N 0, 0, none⟩))) := HR.out.cell (i := 0) (by omega)
          have t1 : wr.cell? ⟨w.heap.size, 1, none⟩ = some (.int .i32 0) := HR.out.cell (i := 1) (by omega)
          have n0 := HS.out.unit 0 hpos
          have x0 := HS.out.num 0 hpos
          have hne := filled (fun e => absurd ((HP.out 0 hpos).1 e) (by omega))
          obtain ⟨u0, eu⟩ : ∃ u0, u0 = us.getD 0 ByteArray.empty := ⟨_, rfl⟩
          rw [← eu] at n0 hne
          have EU := Lib.hid eu
          clear eu
          have hTs : w.heap.size < wr.heap.size := HS.out.hiT
          have hlN : N 0 < wr.heap.size := by have := HS.out.lt 0 hpos; omega
          have hk1 : (0 : Int) < (k : Int) := by omega
          by_cases h1 : k = 1
          · subst h1
            have hbo := hb.out
            have hbz := hbo.size
            go_wp2_with fail
            refine wp_loop_rounds 2 ?_
            rw [rounds_succ]
            go_wp2_with fail
            rw [rounds_succ]
            go_wp2_with fail
            refine wp_loop_rounds 1 ?_
            rw [rounds_succ]
            go_wp2_with fail
            go_ret
            refine ⟨hbo.alloc (by omega) _, fun h => by omega, fun _ => ⟨zs, N 0, zs 0, u0, fun i hi => hnew.out i hi, rfl, ?_, ?_, fun h => by omega, fun _ => ⟨EU.out, fun _ => rfl, fun h => by omega⟩⟩⟩
            · rw [cell_alloc_old hlN]; exact n0
            · rw [cell_alloc_old hlN]; exact x0
          · have h1k : 1 < k := by omega
            have y0 : wr.cell? ⟨w.heap.size, 2, none⟩ = some (.iface 57 (.pointer (some ⟨N 1, 0, none⟩))) := HR.out.cell (i := 2) (by omega)
            have y1 : wr.cell? ⟨w.heap.size, 3, none⟩ = some (.int .i32 0) := HR.out.cell (i := 3) (by omega)
            have b0 := HS.out.unit 1 h1k
            rw [(HP.out 1 h1k).2 (by omega)] at b0
            have hlN1 : N 1 < wr.heap.size := by have := HS.out.lt 1 h1k; omega
            have hk2 : (1 : Int) < (k : Int) := by omega
            go_wp2_with fail
            refine wp_loop_rounds 2 ?_
            rw [rounds_succ]
            go_wp2_with fail
            rw [rounds_succ]
            go_wp2_with fail
            go_loopw [12, 13] (fun e j W => ∃ (kk v : Nat), 2 ≤ kk ∧ kk ≤ k ∧ j = .int .i64 kk ∧ e = .int .i64 2 ∧ Hid (St us N (fun i => if i = 1 then v else zs i) k w.heap.size W) ∧ Hid (W.rowIs w.heap.size 53 (k * 2) (rowD N 0 0)) ∧ Hid (Prods ((idx 0 kk).map zs) v) ∧ Hid (Below B w W)) (fun _ j _ => k - (intOf j).toNat)
            case atStart =>
              have hbz := hb.out.size
              refine ⟨2, zs 1, by omega, by omega, rfl, rfl, (HS.out.keep (by rw [World.size_alloc, World.size_alloc]; omega) (fun b x h => ?_) (fun b x h => ?_)).congr (fun i hi => ?_), ((HR.out.alloc _).alloc _), ?_, (hb.out.alloc (by omega) _).alloc (by rw [World.size_alloc]; omega) _⟩
              · rw [cell_alloc_old (by rw [World.size_alloc]; omega), cell_alloc_old (by omega)]
              · rw [fz_alloc_old (by rw [World.size_alloc]; omega), fz_alloc_old (by omega)]
              · by_cases h1 : i = 1
                · simp [h1]
                · simp [h1]
              · show Prods ((idx 0 2).map zs) _
                exact Prods.one (zs 1)
            case round =>
              obtain ⟨kk, v, hk1', hkk, rfl, rfl, hS, hR, hPr, hBl⟩ := hrel
              have hBT : B ≤ w.heap.size := by omega
              have hTW := hS.out.hiT
              have hbz2 := hBl.out.size
              by_cases hlt2 : kk < k
              · have q0 := hR.out.cell (i := kk * 2) (by omega)
                have q1 := hR.out.cell (i := kk * 2 + 1) (by omega)
                unfold rowD at q0 q1
                rw [if_neg (by omega), if_neg (by omega), show kk * 2 / 2 = kk by omega] at q0
                rw [if_pos (by omega)] at q1
                have hNk := HS.out.lt kk hlt2
                have hN1 := HS.out.lt 1 h1k
                have hNk1 := Nat.lt_trans hNk hTW
                have hN11 := Nat.lt_trans hN1 hTW
                have hNe := HS.out.inj kk 1 hlt2 h1k (by omega)
                have m0 := hS.out.unit kk hlt2
                have m1 := hS.out.num kk hlt2
                have m2 := hS.out.num 1 h1k
                have mf := hS.out.fz 1 h1k
                simp only [if_pos, if_neg (show ¬ kk = 1 by omega)] at m1 m2
                have hlt3 : (kk : Int) < (k : Int) := by omega
                have hf := fun (t : TypeId) (W : World) => run_fop (P := Tryz.prog) (Or.inl rfl) t v (zs kk) W
                rw [(HP.out kk hlt2).2 (by omega)] at m0
                go_wp2_with fail
                go_region
                go_wp2_with fail
                have hB1 : B ≤ N 1 := by have := HN.out.lo; have := HN.out.loN 1 h1k; omega
                go_roundw
                case rel =>
                  refine ⟨kk + 1, fR .mul v (zs kk) (wr.alloc (.cells #[.iface 57 (.pointer (some ⟨N kk, 0, none⟩)), .int .i32 0] 53)).drew, by omega, by omega, by go_num, rfl, St.congr (St.set (hS.out.keep (by show _ ≤ (World.alloc _ _).heap.size; rw [World.size_alloc]; omega) (fun b x h => by show (World.alloc _ _).cell? _ = _; exact cell_alloc_old (Nat.lt_trans h hTW)) (fun b x h => by show (World.alloc _ _).frozen? _ = _; exact fz_alloc_old (Nat.lt_trans h hTW))) h1k) (fun i hi => ?_), ?_, ?_, ?_⟩
                  · by_cases h1 : i = 1
                    · simp [h1]
                    · simp [h1]
                  · exact row_other (hR.out.alloc _) (by show w.heap.size ≠ N 1; omega)
                  · have := fun W => Prods.snoc _ (zs kk) v W hPr.out
                    show Prods ((idx 0 (kk + 1)).map zs) _
                    rw [idx_succ, if_neg (by omega), List.map_append]
                    exact this _
                  · exact (below_drewN (hBl.out.alloc (by omega) _) _).setCell hB1 _
                case measure => simp [intOf]; omega
              · have ekk : kk = k := by omega
                subst ekk
                have e0 := hR.out.cell (i := 0) (by omega)
                have e1 := hR.out.cell (i := 2) (by omega)
                unfold rowD at e0 e1
                rw [if_neg (by omega), if_neg (by omega)] at e0
                rw [if_neg (by omega), if_neg (by omega)] at e1
                have m0 := hS.out.unit 0 hpos
                have m1 := hS.out.num 0 hpos
                have mf := hS.out.fz 0 hpos
                have x2 := hS.out.unit 1 h1k
                rw [(HP.out 1 h1k).2 (by omega)] at x2
                have x3 := hS.out.num 1 h1k
                simp only [if_pos, if_neg (show ¬ (0 : Nat) = 1 by omega)] at m1 x3
                rw [← EU.out] at m0
                have hf := fun (t : TypeId) (W : World) => run_fop (P := Tryz.prog) (Or.inl rfl) t (zs 0) v W
                have hk3 : (2 : Int) ≤ (kk : Int) := by omega
                have hB0 : B ≤ N 0 := by have := HN.out.lo; have := HN.out.loN 0 hpos; omega
                go_wp2_with fail
                go_region
                go_wp2_with fail
                go_ret
                refine ⟨(below_drewN hBl.out _).setCell hB0 _, fun h => by omega, fun _ => ⟨zs, N 0, fR .mul (zs 0) v wr.drew, u0, fun i hi => hnew.out i hi, rfl, ?_, ?_, fun h => by omega, fun _ => ⟨EU.out, fun h => by omega, fun _ => ⟨v, wr.drew, hPr.out, rfl⟩⟩⟩⟩
                · rw [World.cell?_setCell_other _ _ _ _ (fun e => by injection e; omega)]
                  exact m0
                · exact World.cell?_setCell_same' _ _ _ (by show (wr.cell? _).isSome = true; rw [m1]; rfl)
        · have hpos : 0 < k := by omega
          have t0 : wr.cell? ⟨w.heap.size, 0, none⟩ = some (.iface 57 (.pointer (some ⟨N 0, 0, none⟩))) := HR.out.cell (i := 0) (by omega)
          have t1 : wr.cell? ⟨w.heap.size, 1, none⟩ = some (.int .i32 0) := HR.out.cell (i := 1) (by omega)
          have n0 : wr.cell? ⟨N 0, 0, none⟩ = some (.string ⟨#[]⟩) := by have := HS.out.unit 0 hpos; rw [(HP.out 0 hpos).2 (by omega)] at this; exact this
          have hTs : w.heap.size < wr.heap.size := HS.out.hiT
          have hlN : N 0 < wr.heap.size := by have := HS.out.lt 0 hpos; omega
          have hk1 : (0 : Int) < (k : Int) := by omega
          go_wp2_with fail
          refine wp_loop_rounds 1 ?_
          rw [rounds_succ]
          go_wp2_with fail
          go_loopw [12, 13] (fun e j W => ∃ (kk v d : Nat), 1 ≤ kk ∧ kk ≤ k ∧ j = .int .i64 kk ∧ e = .int .i64 d ∧ Hid (d = if p < kk then 2 else 1) ∧ Hid (St us N (fun i => if i = 0 then v else zs i) k w.heap.size W) ∧ Hid (W.rowIs w.heap.size 53 (k * 2) (rowD N p kk)) ∧ Hid (Prods ((idx p kk).map zs) v) ∧ Hid (Below B w W)) (fun _ j _ => k - (intOf j).toNat)
          case atStart =>
            refine ⟨1, zs 0, 1, by omega, by omega, rfl, rfl, ?_, (HS.out.keep (by rw [World.size_alloc]; omega) (fun b x h => cell_alloc_old (Nat.lt_trans h hTs)) (fun b x h => fz_alloc_old (Nat.lt_trans h hTs))).congr (fun i hi => ?_), (HR.out.alloc _).congr (fun j _ => ?_), ?_, hb.out.alloc (by have := hb.out.size; omega) _⟩
            · show 1 = _
              rw [if_neg (by omega)]
            · by_cases h1 : i = 0
              · simp [h1]
              · simp [h1]
            · unfold rowD
              simp [show ¬ p < 1 by omega]
            · show Prods ((idx p 1).map zs) _
              rw [idx_succ, if_neg (by omega)]
              exact Prods.one (zs 0)
          case round =>
            obtain ⟨kk, v, d, hk1', hkk, rfl, rfl, hd, hS, hR, hPr, hBl⟩ := hrel
            have hBT : B ≤ w.heap.size := by omega
            by_cases hlt2 : kk < k
            · have hTW := hS.out.hiT
              have q0 := hR.out.cell (i := kk * 2) (by omega)
              have q1 := hR.out.cell (i := kk * 2 + 1) (by omega)
              unfold rowD at q0 q1
              rw [if_neg (by omega), if_neg (by omega), show kk * 2 / 2 = kk by omega] at q0
              rw [if_pos (by omega)] at q1
              have hNk := HS.out.lt kk hlt2
              have hN0 := HS.out.lt 0 hpos
              have hNk1 := Nat.lt_trans hNk hTW
              have hN01 := Nat.lt_trans hN0 hTW
              have hNe := HS.out.inj kk 0 hlt2 hpos (by omega)
              have m0 := hS.out.unit kk hlt2
              have m1 := hS.out.num kk hlt2
              have m2 := hS.out.num 0 hpos
              have mf := hS.out.fz 0 hpos
              simp only [if_pos, if_neg (show ¬ kk = 0 by omega)] at m1 m2
              have hlt3 : (kk : Int) < (k : Int) := by omega
              have hf := fun (t : TypeId) (W : World) => run_fop (P := Tryz.prog) (Or.inl rfl) t v (zs kk) W
              by_cases hkp : kk = p
              · have hne := filled (fun e => absurd ((HP.out kk hlt2).1 e) (by omega))
                have hd1 : d = 1 := by rw [hd.out, if_neg (by omega)]
                subst hd1
                have s0 := hR.out.cell (i := 2) (by omega)
                have s1 := hR.out.cell (i := 3) (by omega)
                have sf0 := hR.out.frozen 2
                have sf1 := hR.out.frozen 3
                unfold rowD at s0 s1
                rw [if_neg (by omega), if_neg (by omega)] at s0
                rw [if_pos (by omega)] at s1
                subst hkp
                obtain ⟨u0, eu⟩ : ∃ u0, u0 = us.getD kk ByteArray.empty := ⟨_, rfl⟩
                rw [← eu] at m0 hne
                clear eu
                go_wp2_with fail
                have hbz2 := hBl.out.size
                have z4 : ((wr.setCell ⟨w.heap.size, 2, none⟩ (.iface 57 (.pointer (some ⟨N kk, 0, none⟩)))).setCell ⟨w.heap.size, 3, none⟩ (.int .i32 0)).heap.size = wr.heap.size := by rw [World.size_setCell, World.size_setCell]
                go_roundw
                case rel =>
                  refine ⟨kk + 1, v, 2, by omega, by omega, by go_num, rfl, ?_, hS.out.keep (by rw [World.size_alloc, z4]; omega) (fun b x h => ?_) (fun b x h => ?_), ((((hR.out.set 2 (.iface 57 (.pointer (some ⟨N kk, 0, none⟩)))).set 3 (.int .i32 0)).alloc _).congr (fun j _ => ?_)), ?_, ((hBl.out.setCell hBT _).setCell hBT _).alloc (by rw [z4]; omega) _⟩
                  · show 2 = _
                    rw [if_pos (by omega)]
                  · rw [cell_alloc_old (by rw [z4]; omega), cell_set_other (by show b ≠ w.heap.size; omega), cell_set_other (by show b ≠ w.heap.size; omega)]
                  · rw [fz_alloc_old (by rw [z4]; omega), fz_set_other (by show b ≠ w.heap.size; omega), fz_set_other (by show b ≠ w.heap.size; omega)]
                  · unfold rowD
                    by_cases e3 : j = 3
                    · subst e3; rw [if_pos rfl, if_pos (by omega)]
                    · rw [if_neg e3]
                      by_cases e2 : j = 2
                      · subst e2; rw [if_pos rfl, if_neg (by omega), if_pos (by omega)]
                      · rw [if_neg e2]
                        by_cases ho : j % 2 = 1
                        · rw [if_pos ho, if_pos ho]
                        · rw [if_neg ho, if_neg ho, if_neg (by omega), if_neg (by omega)]
                  · show Prods ((idx kk (kk + 1)).map zs) _
                    rw [idx_succ, if_pos rfl]
                    exact hPr.out
                case measure => simp [intOf]; omega
              · rw [(HP.out kk hlt2).2 hkp] at m0
                go_wp2_with fail
                go_region
                go_wp2_with fail
                have hB0 : B ≤ N 0 := by have := HN.out.lo; have := HN.out.loN 0 hpos; omega
                have hbz2 := hBl.out.size
                go_roundw
                case rel =>
                  refine ⟨kk + 1, fR .mul v (zs kk) (wr.alloc (.cells #[.iface 57 (.pointer (some ⟨N kk, 0, none⟩)), .int .i32 0] 53)).drew, d, by omega, by omega, by go_num, rfl, ?_, St.congr (St.set (hS.out.keep (by show _ ≤ (World.alloc _ _).heap.size; rw [World.size_alloc]; omega) (fun b x h => by show (World.alloc _ _).cell? _ = _; exact cell_alloc_old (Nat.lt_trans h hTW)) (fun b x h => by show (World.alloc _ _).frozen? _ = _; exact fz_alloc_old (Nat.lt_trans h hTW))) hpos) (fun i hi => ?_), ?_, ?_, ?_⟩
                  · show d = _
                    rw [hd.out]
                    by_cases h1 : p < kk
                    · rw [if_pos h1, if_pos (by omega)]
                    · rw [if_neg h1, if_neg (by omega)]
                  · by_cases h1 : i = 0
                    · simp [h1]
                    · simp [h1]
                  · exact (row_other (hR.out.alloc _) (by show w.heap.size ≠ N 0; omega)).congr (fun j _ => by
                      unfold rowD
                      by_cases h1 : p < kk
                      · simp [h1, show p < kk + 1 by omega]
                      · simp [h1, show ¬ p < kk + 1 by omega])
                  · have := fun W => Prods.snoc _ (zs kk) v W hPr.out
                    show Prods ((idx p (kk + 1)).map zs) _
                    rw [idx_succ, if_neg hkp, List.map_append]
                    exact this _
                  · exact (below_drewN (hBl.out.alloc (by omega) _) _).setCell hB0 _
                case measure => simp [intOf]; omega
            · have ekk : kk = k := by omega
              subst ekk
              have hTW := hS.out.hiT
              have e0 := hR.out.cell (i := 0) (by omega)
              unfold rowD at e0
              rw [if_neg (by omega), if_neg (by omega)] at e0
              have m0 := hS.out.unit 0 hpos
              rw [(HP.out 0 hpos).2 (by omega)] at m0
              have m1 := hS.out.num 0 hpos
              simp only [if_pos] at m1
              by_cases hpk : p < kk
              · have hd2 : d = 2 := by rw [hd.out, if_pos hpk]
                subst hd2
                have e1 := hR.out.cell (i := 2) (by omega)
                unfold rowD at e1
                rw [if_neg (by omega), if_pos (by omega)] at e1
                have x0 := hS.out.unit p hpk
                have x1 := hS.out.num p hpk
                have xf := hS.out.fz p hpk
                simp only [if_neg hp0] at x1
                have hf := fun (t : TypeId) (W : World) => run_fop (P := Tryz.prog) (Or.inl rfl) t (zs p) v W
                have hk2 : (2 : Int) ≤ (kk : Int) := by omega
                have hBp : B ≤ N p := by have := HN.out.lo; have := HN.out.loN p hpk; omega
                obtain ⟨u0, eu⟩ : ∃ u0, u0 = us.getD p ByteArray.empty := ⟨_, rfl⟩
                rw [← eu] at x0
                have EU := Lib.hid eu
                clear eu
                go_wp2_with fail
                go_region
                go_wp2_with fail
                go_ret
                refine ⟨(below_drewN hBl.out _).setCell hBp _, fun h => by omega, fun _ => ⟨zs, N p, fR .mul (zs p) v wr.drew, u0, fun i hi => hnew.out i hi, rfl, ?_, ?_, fun h => by omega, fun _ => ⟨EU.out, fun h => by omega, fun _ => ⟨v, wr.drew, hPr.out, rfl⟩⟩⟩⟩
                · rw [World.cell?_setCell_other _ _ _ _ (fun e => by injection e; omega)]
                  exact x0
                · exact World.cell?_setCell_same' _ _ _ (by show (wr.cell? _).isSome = true; rw [x1]; rfl)
              · have hd1 : d = 1 := by rw [hd.out, if_neg hpk]
                subst hd1
                go_wp2_with fail
                refine wp_loop_rounds 1 ?_
                rw [rounds_succ]
                go_wp2_with fail
                go_ret
                exact ⟨hBl.out, fun h => by omega, fun _ => ⟨zs, N 0, v, ⟨#[]⟩, fun i hi => hnew.out i hi, rfl, m0, m1, fun _ => ⟨rfl, hPr.out⟩, fun h => absurd h hpk⟩⟩
end Go.Proofs.YtnoghiefpdbpbaaGreatFmt
