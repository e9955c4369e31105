/-
  printRule of a comment, where legal comments are kept for the end of the file.
-/
import Derived.Test.YtiplakadjkimmabGreatFmtA
import Derived.Test.YtiplakadjkimmabGreatFmtB
import Derived.Deep.AppendLies
import Derived.Deep.RegionLaw
import Derived.StillTailTactics
import Derived.Deep.DeepCutAuto
namespace Go.Proofs.YtiplakadjkimmabGreatFmt
open Go.RowKit Go.Deep Go.Maps Go.ChangeMaps Go.WideMaps

theorem u101 : Tryz.prog.underlying 101 = some (.pointer 103) := by kernel_rfl
theorem law9 : Keyed Tryz.prog 9 := string_keyed Tryz.underlying9
theorem zero107 (w : World) : (zeroValue 107).run Tryz.prog w = .ok (.agg #[]) w := by kernel_rfl
theorem run_assert_same {P : Program} (x : Value) (xt t d : TypeId) (ht : P.underlying t = some (.pointer d)) (w : World) :
    (Instr.typeAssert (.iface t x) xt t true).run P w = .ok (.tuple #[x, .bool true]) w := by
  simp [Instr.typeAssert, run_underlying ht]

theorem row_ne {w : World} {base : Nat} {e : TypeId} {size : Nat} {v : Value} {n : Nat} {xs : List Value} (h : w.ownsRow base e size v n xs) {b : Nat} (hb : b < base) : some b ≠ v.ownBlock := fun e1 => by
  have := h.lt b e1.symm
  omega

/-- The printer's state: the texts l have been passed. -/
def Prn (B : Nat) (l : List ByteArray) (w : World) : Prop :=
  w.cell? ⟨B, 10, none⟩ = some (.int .u8 2) ∧ (w.frozen? ⟨B, 16, none⟩ = false ∧ w.frozen? ⟨B, 17, none⟩ = false) ∧ (w.cell? ⟨B, 15, none⟩ = some (.slice none 0 0) ∧ w.cell? ⟨B, 18, none⟩ = some (.slice none 0 0)) ∧
  (∃ v, w.cell? ⟨B, 17, none⟩ = some v ∧ w.ownsRow (B + 1) 9 1 v (ded l).length ((ded l).map Value.string)) ∧
  ((l = [] ∧ w.cell? ⟨B, 16, none⟩ = some (.map none)) ∨ ∃ M, B < M ∧ w.cell? ⟨B, 16, none⟩ = some (.map (some M)) ∧ w.ownsMap Tryz.prog 9 unitElem M l.length (Sd l))

theorem map_ne_row {w : World} {M n base m : Nat} {D : DataW Unit} {e : TypeId} {size : Nat} {v : Value} {xs : List Value} (h : w.ownsMap Tryz.prog 9 unitElem M n D) (hr : w.ownsRow base e size v m xs) : some M ≠ v.ownBlock := fun eq => by
  obtain ⟨es, clock, hb, _⟩ := h
  rcases hr.2 with ⟨hv, _⟩ | ⟨g, cap, cur, hv, _, hg, _⟩
  · rw [hv] at eq
    cases eq
  · rw [hv] at eq
    have e2 : M = g := Option.some.inj eq
    subst e2
    rw [hb] at hg
    cases hg

theorem ded_len (l : List ByteArray) : (ded l).length ≤ l.length := by
  have h : ∀ (l acc : List ByteArray), (l.foldl (fun acc x => if inB acc x then acc else acc ++ [x]) acc).length ≤ acc.length + l.length := by
    intro l
    induction l with
    | nil => intro acc; exact Nat.le_refl _
    | cons x l ih =>
      intro acc
      rw [List.foldl_cons]
      refine Nat.le_trans (ih _) ?_
      rw [List.length_cons]
      split
      · omega
      · rw [List.length_append]; simp; omega
  have := h l []
  simpa [ded] using this

theorem look_run {w : World} {M n : Nat} {l : List ByteArray} {t : ByteArray} (h : w.ownsMap Tryz.prog 9 unitElem M n (Sd l)) (hts : t.size ≤ maxLen) :
    (Instr.lookup 80 (.map (some M)) (.string t) true).run Tryz.prog w = .ok (.tuple #[.agg #[], .bool (inB (ded l) t)]) w := by
  obtain ⟨v, ps, hrun, hv⟩ := h.look_ok law9 Tryz.underlying80 (zero107 w) unitElem_mk (keyOf_string_mk Tryz.underlying9 hts)
  rw [show Lit.string t.data.toList = lit t from rfl, has_Sd] at hrun
  obtain ⟨rfl, _⟩ := unitElem_inv hv
  exact hrun

/-- The printer's cells but the two that turn. -/
def Rest (B : Nat) (w : World) : Prop := w.cell? ⟨B, 10, none⟩ = some (.int .u8 2) ∧ (w.frozen? ⟨B, 16, none⟩ = false ∧ w.frozen? ⟨B, 17, none⟩ = false) ∧ (w.cell? ⟨B, 15, none⟩ = some (.slice none 0 0) ∧ w.cell? ⟨B, 18, none⟩ = some (.slice none 0 0))

theorem Rest.far {B : Nat} {w w' : World} {row : Option Nat} (h : Rest B w) (hg : w.grownBy w' row) (hB : B < w.heap.size) (hne : some B ≠ row) : Rest B w' :=
  ⟨(hg.cell_far ⟨B, 10, none⟩ hB hne).trans h.1, ⟨(hg.frozen_far ⟨B, 16, none⟩ hB hne).trans h.2.1.1, (hg.frozen_far ⟨B, 17, none⟩ hB hne).trans h.2.1.2⟩,
    (hg.cell_far ⟨B, 15, none⟩ hB hne).trans h.2.2.1, (hg.cell_far ⟨B, 18, none⟩ hB hne).trans h.2.2.2⟩
theorem Rest.set {B j : Nat} {w : World} {v : Value} (h : Rest B w) (hj : j = 16 ∨ j = 17) : Rest B (w.setCell ⟨B, j, none⟩ v) :=
  ⟨(cell_set_off (by omega)).trans h.1, ⟨by rw [World.frozen?_setCell]; exact h.2.1.1, by rw [World.frozen?_setCell]; exact h.2.1.2⟩, (cell_set_off (by omega)).trans h.2.2.1, (cell_set_off (by omega)).trans h.2.2.2⟩

/-- A new text: into the set, and to the slice's end. -/
theorem prn_after {B M g cap : Nat} {l : List ByteArray} {t : ByteArray} {v : Value} {o : Obj} {w2 w3 : World} (hin : inB (ded l) t = false) (hBs : B < w2.heap.size) (hBM : B < M) (hR : Rest B w2) (n16 : w2.cell? ⟨B, 16, none⟩ = some (.map (some M)))
    (n17 : w2.cell? ⟨B, 17, none⟩ = some v) (hm : w2.ownsMap Tryz.prog 9 unitElem M (l.length + 1) ((Sd l).put (lit t) (.agg []))) (hrow : w2.ownsRow (B + 1) 9 1 v (ded l).length ((ded l).map Value.string))
    (hg3 : (w2.drew.alloc o).grownBy w3 v.ownBlock) (hown3 : w3.ownsRow (B + 1) 9 1 (.slice (some ⟨g, 0, none⟩) ((ded l).length + 1) cap) ((ded l).length + 1) ((ded l).map Value.string ++ [.string t])) :
    Prn B (l ++ [t]) (w3.setCell ⟨B, 17, none⟩ (.slice (some ⟨g, 0, none⟩) ((ded l).length + 1) cap)) ∧ (∀ w, Below B w w2 → Below B w (w3.setCell ⟨B, 17, none⟩ (.slice (some ⟨g, 0, none⟩) ((ded l).length + 1) cap))) := by
  have hne := row_ne hrow (Nat.lt_succ_self B)
  have hsz : (w2.drew.alloc o).heap.size = w2.heap.size + 1 := World.size_alloc _ _
  have hR3 : Rest B w3 := Rest.far (w := w2.drew.alloc o) (Rest.far (w := w2.drew) (row := none) hR (World.grownBy_alloc w2.drew o none) hBs (fun e => by cases e)) hg3 (by omega) hne
  have q16 : w3.cell? ⟨B, 16, none⟩ = some (.map (some M)) := (hg3.cell_far ⟨B, 16, none⟩ (by show B < _; omega) hne).trans ((cell_alloc_old (w := w2.drew) hBs).trans n16)
  have q17 : w3.cell? ⟨B, 17, none⟩ = some v := (hg3.cell_far ⟨B, 17, none⟩ (by show B < _; omega) hne).trans ((cell_alloc_old (w := w2.drew) hBs).trans n17)
  have hmn := map_ne_row hm hrow
  have hm3 := ((World.ownsMap.drew hm).alloc o).kept hg3 hmn
  have hn3 := row_ne hown3 (Nat.lt_succ_self B)
  obtain ⟨r1, r2, r3⟩ := hR3.set (v := .slice (some ⟨g, 0, none⟩) ((ded l).length + 1) cap) (Or.inr rfl : (17 : Nat) = 16 ∨ (17 : Nat) = 17)
  refine ⟨⟨r1, r2, r3, ⟨_, World.cell?_setCell_same' _ _ _ (by rw [q17]; rfl), ?_⟩, Or.inr ⟨M, hBM, (cell_set_off (by decide)).trans q16, ?_⟩⟩, fun w hb => ?_⟩
  · rw [ded_new hin, List.length_append, List.map_append]
    exact hown3.kept (grown_set w3 B 17 _) (Or.inr hn3.symm)
  · rw [Sd_new hin, List.length_append]
    exact hm3.setCell (by show M ≠ B; omega) _
  · have b1 : Below B w (w2.drew.alloc o) := (Below.drew hb).alloc (by show B ≤ w2.heap.size; omega) o
    have b2 : Below B w w3 := b1.grown hg3 (by omega) (fun k hk => by have := (hrow.lt k hk).1; omega)
    exact b2.setCell (show B ≤ (⟨B, 17, none⟩ : Addr).block from Nat.le_refl B) _

set_option maxHeartbeats 8000000 in
set_option maxRecDepth 100000 in
theorem rule_any (B r : Nat) (l : List ByteArray) (t : ByteArray) (w : World) (hr : r < B) (ht : w.cell? ⟨r, 0, none⟩ = some (.string t)) (hts : t.size ≤ 1048576) (hl : l.length ≤ 4096) (hP : Prn B l w) :
    Calls Tryz.prog 22 #[.pointer (some ⟨B, 0, none⟩), .agg #[.iface 101 (.pointer (some ⟨r, 0, none⟩)), .int .i32 0], .int .i32 0, .bool false] w fun e w' => e = .returned (.tuple #[]) ∧ Prn B (l ++ [t]) w' ∧ Below B w w' := by
  obtain ⟨c10, ⟨z16, z17⟩, ⟨c15, c18⟩, ⟨v, c17, hrow⟩, hm⟩ := hP
  have HRest : Hid (Rest B w) := Lib.hid ⟨c10, ⟨z16, z17⟩, c15, c18⟩
  have ha := run_assert_same (P := Tryz.prog) (.pointer (some ⟨r, 0, none⟩)) 91 101 103 u101
  have hBs : B < w.heap.size := World.block_lt_of_cell? _ _ c10
  have hmm := @run_makeMap Tryz.prog
  have hqm := fun (W : World) (r : Option Nat) => run_eql_map_nil (P := Tryz.prog) W 80 9 107 r Tryz.underlying80
  obtain ⟨i0, hi0, hz0, hz1, hz2⟩ := info_parts info9
  have h1c : ∀ u ∈ [Value.string t], u.oneCell' = true := fun u hu => by
    rcases List.mem_cons.1 hu with rfl | hu
    · rfl
    · cases hu
  have HR := Lib.hid hrow
  clear hrow c15 c18
  rcases hm with ⟨rfl, c16⟩ | ⟨M, hM, c16, hown⟩
  · go_enter Tryz.func22, Tryz.ntmps22
    go_wp2_with fail
    obtain ⟨M, eM⟩ : ∃ M, M = w.heap.size + 1 := ⟨_, rfl⟩
    rw [← eM]
    obtain ⟨Wa, ea⟩ : ∃ Wa, Wa = w.setCell ⟨B, 16, none⟩ (.map (some M)) := ⟨_, rfl⟩
    rw [← ea]
    obtain ⟨Wb, eb⟩ : ∃ Wb, Wb = Wa.alloc (.cells #[.iface 101 (.pointer (some ⟨r, 0, none⟩)), .int .i32 0] 93) := ⟨_, rfl⟩
    rw [← eb]
    obtain ⟨W1, e1⟩ : ∃ W1, W1 = Wb.alloc (.map #[] 0) := ⟨_, rfl⟩
    rw [← e1]
    have za : Wa.heap.size = w.heap.size := by rw [ea, World.size_setCell]
    have zb : Wb.heap.size = w.heap.size + 1 := by rw [eb, World.size_alloc, za]
    have z1 : W1.heap.size = w.heap.size + 2 := by rw [e1, World.size_alloc, zb]
    have hba : Below B w Wa := by rw [ea]; exact (Below.refl B w).setCell (show B ≤ (⟨B, 16, none⟩ : Addr).block from Nat.le_refl B) _
    have hbb : Below B w Wb := by rw [eb]; exact hba.alloc (by omega) _
    have hb1 : Below B w W1 := by rw [e1]; exact hbb.alloc (by omega) _
    have hg1 : w.grownBy W1 (some B) := by rw [e1, eb, ea]; exact ((grown_set w B 16 _).trans (World.grownBy_alloc _ _ _)).trans (World.grownBy_alloc _ _ _)
    have hco : ∀ b j, b < w.heap.size → W1.cell? ⟨b, j, none⟩ = Wa.cell? ⟨b, j, none⟩ := fun b j hb => by rw [e1, cell_alloc_old (by omega), eb, cell_alloc_old (by omega)]
    have hfo : ∀ b j, b < w.heap.size → W1.frozen? ⟨b, j, none⟩ = w.frozen? ⟨b, j, none⟩ := fun b j hb => by rw [e1, fz_alloc_old (by omega), eb, fz_alloc_old (by omega), ea, World.frozen?_setCell]
    have k16 : W1.cell? ⟨B, 16, none⟩ = some (.map (some M)) := by rw [hco B 16 hBs, ea, World.cell?_setCell_same' _ _ _ (by rw [c16]; rfl)]
    have k17 : W1.cell? ⟨B, 17, none⟩ = some v := by rw [hco B 17 hBs, ea, cell_set_off (by decide), c17]
    have y16 : W1.frozen? ⟨B, 16, none⟩ = false := by rw [hfo B 16 hBs, z16]
    have y17 : W1.frozen? ⟨B, 17, none⟩ = false := by rw [hfo B 17 hBs, z17]
    have kt : W1.cell? ⟨r, 0, none⟩ = some (.string t) := by rw [hco r 0 (by omega), ea, cell_set_other (by show r ≠ B; omega), ht]
    have hown : W1.ownsMap Tryz.prog 9 unitElem M 0 (Sd []) := by
      have h := World.ownsMap_made (H := Unit) Wb Tryz.prog 9 unitElem
      rw [zb, ← eM, ← e1] at h
      exact h
    have hrow1 := HR.out.kept hg1 (Or.inr (row_ne HR.out (Nat.lt_succ_self _)).symm)
    have hkey : keyOf Tryz.prog 9 (.string t) = some (lit t) := keyOf_string_mk Tryz.underlying9 (by unfold maxLen; omega)
    have HM := Lib.hid eM
    have hRa : Rest B Wa := by rw [ea]; exact HRest.out.set (Or.inl rfl)
    have hRb : Rest B Wb := by rw [eb]; exact Rest.far hRa (World.grownBy_alloc Wa _ none) (by omega) (fun e => by cases e)
    have hR1 : Rest B W1 := by rw [e1]; exact Rest.far hRb (World.grownBy_alloc Wb _ none) (by omega) (fun e => by cases e)
    have HRest1 := Lib.hid hR1
    clear hRa hRb hR1
    clear ea eb e1 hco hfo hg1 eM za zb hba hbb
    go_still_tail 9, (by kernel_rfl)
    refine wpList_mapUpdate_own _ rfl _ _ _ 80 rfl 9 107 law9 Tryz.underlying80 (unitElem (H := Unit)) M 0 (Sd []) rfl (World.ownsMap.drew hown) (by unfold maxLen; omega) (.string t) (.agg #[]) (lit t) rfl rfl hkey (.agg []) [] unitElem_mk ?_
    intro w2 hown2 hgrow2
    have HB1 := Lib.hid hb1
    have HO2 := Lib.hid hown2
    have HG2 := Lib.hid hgrow2
    have hBM : B < M := by have := HM.out; omega
    have hBs1 : B < W1.heap.size := World.block_lt_of_cell? _ _ k16
    have n16 : w2.cell? ⟨B, 16, none⟩ = some (.map (some M)) := (hgrow2.cell_far ⟨B, 16, none⟩ hBs1 (fun e => by have e1 : B = M := Option.some.inj e; omega)).trans k16
    have n17 : w2.cell? ⟨B, 17, none⟩ = some v := (hgrow2.cell_far ⟨B, 17, none⟩ hBs1 (fun e => by have e1 : B = M := Option.some.inj e; omega)).trans k17
    have nt : w2.cell? ⟨r, 0, none⟩ = some (.string t) := (hgrow2.cell_far ⟨r, 0, none⟩ (by show r < W1.heap.size; omega) (fun e => by have e1 : r = M := Option.some.inj e; omega)).trans kt
    have x17 : w2.frozen? ⟨B, 17, none⟩ = false := (hgrow2.frozen_far ⟨B, 17, none⟩ hBs1 (fun e => by have e1 : B = M := Option.some.inj e; omega)).trans y17
    have hrow1' : W1.drew.ownsRow (B + 1) 9 1 v (ded []).length ((ded []).map Value.string) := hrow1
    have hrow2 := hrow1'.kept hgrow2 (Or.inr (fun e => by
      have h1 := (HR.out.lt M e).2
      have h2 := HM.out
      omega))
    have HR2 := Lib.hid hrow2
    have HRest2 : Hid (Rest B w2) := Lib.hid (Rest.far (w := W1.drew) HRest1.out hgrow2 hBs1 (fun e => by have e1 : B = M := Option.some.inj e; omega))
    have HB2 : Hid (Below B w w2) := Lib.hid (Below.grown (Below.drew HB1.out) hgrow2 (by show B ≤ W1.heap.size; omega) (fun k hk => by have e1 : M = k := Option.some.inj hk; omega))
    clear hrow1 hrow1' hrow2
    have hs2 : W1.heap.size ≤ w2.heap.size := hgrow2.size
    clear k16 k17 kt y16 y17 hown2 hgrow2 hown hb1
    go_wp2_with fail
    have hBs2 : B < w2.heap.size := by omega
    have hrs2 : r < w2.heap.size := by omega
    have hlen0 : (ded []).length = 0 := rfl
    have hne2 := row_ne HR2.out (Nat.lt_succ_self B)
    go_region_law (first
      | (refine step_append_lies _ rfl (.tmp 99) (.tmp 104) 25 rfl (B + 1) 9 i0 (.string ⟨#[]⟩) 1 16 Tryz.underlying25 hi0 hz0 hz1 hz2 rfl (by decide) v (ded []).length ((ded []).map Value.string) rfl (HR2.out.alloc _) ⟨w2.heap.size, 0, none⟩ 1 1 [.string t] rfl rfl (cell_one_new _ _ _) h1c (by decide) (by unfold maxLen; omega) (by omega) (by show B + 1 ≤ (World.alloc _ _).heap.size; rw [World.size_alloc]; show B + 1 ≤ w2.heap.size + 1; omega) _ rfl ?_
         intro g cap w3 hown3 hgrow3 hat hlt
         have q17 : w3.cell? ⟨B, 17, none⟩ = some v := (hgrow3.cell_far ⟨B, 17, none⟩ (by show B < (World.alloc _ _).heap.size; rw [World.size_alloc]; exact Nat.lt_succ_of_lt hBs2) hne2).trans ((cell_alloc_old (w := w2.drew) hBs2).trans n17)
         have qf : w3.frozen? ⟨B, 17, none⟩ = false := (hgrow3.frozen_far ⟨B, 17, none⟩ (by show B < (World.alloc _ _).heap.size; rw [World.size_alloc]; exact Nat.lt_succ_of_lt hBs2) hne2).trans ((fz_alloc_old (w := w2.drew) hBs2).trans x17)))
    all_goals
      go_wp2_with fail
      refine bodyPost_ret (v := .tuple #[]) (by simp [results, Tryz.results22, go_sem]) rfl ?_
      have hfin := prn_after (l := []) (t := t) rfl hBs2 hBM HRest2.out n16 n17 HO2.out HR2.out hgrow3 hown3
      exact ⟨rfl, hfin.1, hfin.2 w HB2.out⟩
  · obtain ⟨W1, e1⟩ : ∃ W1, W1 = w.alloc (.cells #[.iface 101 (.pointer (some ⟨r, 0, none⟩)), .int .i32 0] 93) := ⟨_, rfl⟩
    have z1 : W1.heap.size = w.heap.size + 1 := by rw [e1, World.size_alloc]
    have hown1 : W1.ownsMap Tryz.prog 9 unitElem M l.length (Sd l) := by rw [e1]; exact hown.alloc _
    have hk1 := look_run (w := W1.drew) (t := t) (World.ownsMap.drew hown1) (by unfold maxLen; omega)
    have hk2 := fun o => look_run (w := (W1.alloc o).drew) (t := t) (World.ownsMap.drew (hown1.alloc o)) (by unfold maxLen; omega)
    have k16 : W1.cell? ⟨B, 16, none⟩ = some (.map (some M)) := by rw [e1, cell_alloc_old hBs, c16]
    have k17 : W1.cell? ⟨B, 17, none⟩ = some v := by rw [e1, cell_alloc_old hBs, c17]
    have kt : W1.cell? ⟨r, 0, none⟩ = some (.string t) := by rw [e1, cell_alloc_old (by omega), ht]
    have HRest1 : Hid (Rest B W1) := Lib.hid (by rw [e1]; exact Rest.far HRest.out (World.grownBy_alloc w _ none) hBs (fun e => by cases e))
    have HR1 : Hid (W1.ownsRow (B + 1) 9 1 v (ded l).length ((ded l).map Value.string)) := Lib.hid (by rw [e1]; exact HR.out.alloc _)
    have HB1 : Hid (Below B w W1) := Lib.hid (by rw [e1]; exact (Below.refl B w).alloc (by omega) _)
    have hBs1 : B < W1.heap.size := by omega
    have hrs1 : r < W1.heap.size := by omega
    have HO1 := Lib.hid hown1
    clear hown hown1 z1
    go_enter Tryz.func22, Tryz.ntmps22
    go_wp2_with fail
    rw [← e1]
    clear e1
    obtain ⟨inn, ein⟩ : ∃ b, b = inB (ded l) t := ⟨_, rfl⟩
    rw [← ein] at hk1 hk2
    have HIN := Lib.hid ein
    clear ein
    obtain ⟨W4, e4⟩ : ∃ W4, W4 = (W1.alloc (.cells #[] 107)).drew := ⟨_, rfl⟩
    have m16 : W4.cell? ⟨B, 16, none⟩ = some (.map (some M)) := by rw [e4]; exact (cell_alloc_old (w := W1) hBs1).trans k16
    have m17 : W4.cell? ⟨B, 17, none⟩ = some v := by rw [e4]; exact (cell_alloc_old (w := W1) hBs1).trans k17
    have mt : W4.cell? ⟨r, 0, none⟩ = some (.string t) := by rw [e4]; exact (cell_alloc_old (w := W1) hrs1).trans kt
    have hR4 : Rest B (W1.alloc (.cells #[] 107)) := Rest.far HRest1.out (World.grownBy_alloc W1 _ none) hBs1 (fun e => by cases e)
    have HRest4 : Hid (Rest B W4) := Lib.hid (by rw [e4]; exact hR4)
    have HR4 : Hid (W4.ownsRow (B + 1) 9 1 v (ded l).length ((ded l).map Value.string)) := Lib.hid (by rw [e4]; exact HR1.out.alloc _)
    have HO4 : Hid (W4.ownsMap Tryz.prog 9 unitElem M l.length (Sd l)) := Lib.hid (by rw [e4]; exact World.ownsMap.drew (HO1.out.alloc _))
    have HB4 : Hid (Below B w W4) := Lib.hid (by rw [e4]; exact Below.drew (HB1.out.alloc (by omega) _))
    have hBs4 : B < W4.heap.size := World.block_lt_of_cell? _ _ m16
    have hrs4 : r < W4.heap.size := World.block_lt_of_cell? _ _ mt
    have HE4 := Lib.hid e4
    have hkey : keyOf Tryz.prog 9 (.string t) = some (lit t) := keyOf_string_mk Tryz.underlying9 (by unfold maxLen; omega)
    have y17 : W4.frozen? ⟨B, 17, none⟩ = false := HRest4.out.2.1.2
    clear e4 hR4
    cases inn
    · go_region
      rw [← HE4.out]
      clear hk1 hk2 k16 k17 kt
      go_wp2_with fail
      go_still_tail 9, (by kernel_rfl)
      refine wpList_mapUpdate_own _ rfl _ _ _ 80 rfl 9 107 law9 Tryz.underlying80 (unitElem (H := Unit)) M l.length (Sd l) rfl (World.ownsMap.drew HO4.out) (by unfold maxLen; omega) (.string t) (.agg #[]) (lit t) rfl rfl hkey (.agg []) [] unitElem_mk ?_
      intro w2 hown2 hgrow2
      have HO2 := Lib.hid hown2
      have hmr := map_ne_row HO4.out HR4.out
      have n16 : w2.cell? ⟨B, 16, none⟩ = some (.map (some M)) := (hgrow2.cell_far ⟨B, 16, none⟩ hBs4 (fun e => by have e1 : B = M := Option.some.inj e; omega)).trans m16
      have n17 : w2.cell? ⟨B, 17, none⟩ = some v := (hgrow2.cell_far ⟨B, 17, none⟩ hBs4 (fun e => by have e1 : B = M := Option.some.inj e; omega)).trans m17
      have nt : w2.cell? ⟨r, 0, none⟩ = some (.string t) := (hgrow2.cell_far ⟨r, 0, none⟩ hrs4 (fun e => by have e1 : r = M := Option.some.inj e; omega)).trans mt
      have x17 : w2.frozen? ⟨B, 17, none⟩ = false := (hgrow2.frozen_far ⟨B, 17, none⟩ hBs4 (fun e => by have e1 : B = M := Option.some.inj e; omega)).trans y17
      have hrow1' : W4.drew.ownsRow (B + 1) 9 1 v (ded l).length ((ded l).map Value.string) := HR4.out
      have hrow2 := hrow1'.kept hgrow2 (Or.inr (Ne.symm hmr))
      have HR2 := Lib.hid hrow2
      have HRest2 : Hid (Rest B w2) := Lib.hid (Rest.far (w := W4.drew) HRest4.out hgrow2 hBs4 (fun e => by have e1 : B = M := Option.some.inj e; omega))
      have HB2 : Hid (Below B w w2) := Lib.hid (Below.grown (Below.drew HB4.out) hgrow2 (by show B ≤ W4.heap.size; omega) (fun k hk => by have e1 : M = k := Option.some.inj hk; omega))
      have hs2 : W4.heap.size ≤ w2.heap.size := hgrow2.size
      have hdl := ded_len l
      clear m16 m17 mt y17 hown2 hgrow2 hrow1' hrow2
      go_wp2_with fail
      have hBs2 : B < w2.heap.size := by omega
      have hrs2 : r < w2.heap.size := by omega
      have hne2 := row_ne HR2.out (Nat.lt_succ_self B)
      go_region_law (first
        | (refine step_append_lies _ rfl (.tmp 99) (.tmp 104) 25 rfl (B + 1) 9 i0 (.string ⟨#[]⟩) 1 16 Tryz.underlying25 hi0 hz0 hz1 hz2 rfl (by decide) v (ded l).length ((ded l).map Value.string) rfl (HR2.out.alloc _) ⟨w2.heap.size, 0, none⟩ 1 1 [.string t] rfl rfl (cell_one_new _ _ _) h1c (by decide) (by unfold maxLen; omega) (by omega) (by show B + 1 ≤ (World.alloc _ _).heap.size; rw [World.size_alloc]; show B + 1 ≤ w2.heap.size + 1; omega) _ rfl ?_
           intro g cap w3 hown3 hgrow3 hat hlt
           have q17 : w3.cell? ⟨B, 17, none⟩ = some v := (hgrow3.cell_far ⟨B, 17, none⟩ (by show B < (World.alloc _ _).heap.size; rw [World.size_alloc]; exact Nat.lt_succ_of_lt hBs2) hne2).trans ((cell_alloc_old (w := w2.drew) hBs2).trans n17)
           have qf : w3.frozen? ⟨B, 17, none⟩ = false := (hgrow3.frozen_far ⟨B, 17, none⟩ (by show B < (World.alloc _ _).heap.size; rw [World.size_alloc]; exact Nat.lt_succ_of_lt hBs2) hne2).trans ((fz_alloc_old (w := w2.drew) hBs2).trans x17)))
      all_goals
        go_wp2_with fail
        refine bodyPost_ret (v := .tuple #[]) (by simp [results, Tryz.results22, go_sem]) rfl ?_
        have hfin := prn_after (l := l) (t := t) HIN.out.symm hBs2 hM HRest2.out n16 n17 HO2.out HR2.out hgrow3 hown3
        exact ⟨rfl, hfin.1, hfin.2 w HB2.out⟩
    · go_region
      rw [← HE4.out]
      clear hk1 hk2 k16 k17 kt
      go_wp2_with fail
      refine bodyPost_ret (v := .tuple #[]) (by simp [results, Tryz.results22, go_sem]) rfl ?_
      refine ⟨rfl, ⟨HRest4.out.1, HRest4.out.2.1, HRest4.out.2.2, ⟨v, m17, ?_⟩, Or.inr ⟨M, hM, m16, ?_⟩⟩, HB4.out⟩
      · rw [ded_old HIN.out.symm]; exact HR4.out
      · rw [Sd_old HIN.out.symm]; exact HO4.out.mono (by simp)
end Go.Proofs.YtiplakadjkimmabGreatFmt
