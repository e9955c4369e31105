/-
  The laid tables of the row FnSumFlattenNestedPrefix, all of them: asciiFold, caseOrbit, and the rest.
-/
import Derived.Test.YtnoghiefpdbpbaaGreatFmtE5
namespace Go.Proofs.YtnoghiefpdbpbaaGreatFmt
open Go.RowKit Go.Deep Go.PlainAid Go.Shelf Go.Lib

theorem ascD : Rows.laid_unicode_asciiFold = tabData (H := Unit) .u16 (ascF.map fun (c : Nat) => (c : Int)) := by kernel_rfl
set_option maxRecDepth 100000 in
theorem asc_of {W : World} (hL : laidMet Tryz.prog Rows.fnSumFlattenNestedPrefixRow.laid W) (c : Nat) (hc : c < 128) : W.cell? ⟨0, c, none⟩ = some (.int .u16 ((ascF.getD c 0 : Nat) : Int)) := by
  obtain ⟨g, t, cs, fuel, p, hg, hty, hvar, hd⟩ := Lib.laidMet.reads hL (n := "unicode.asciiFold") (d := Rows.laid_unicode_asciiFold) (.tail _ (.head _))
  obtain rfl := Option.some.inj ((show Tryz.prog.globalNamed "unicode.asciiFold" = some 0 by kernel_rfl).symm.trans hg)
  obtain rfl := Option.some.inj ((show (Tryz.prog.globals[0]?).map (·.type) = some 82 by kernel_rfl).symm.trans hty)
  rw [ascD] at hd
  have hcs := cells_of_tab Tryz.underlying82 Tryz.underlying81 (by kernel_rfl) (by kernel_rfl) hd
  have h := World.var?_cell hg hvar c
  rw [h, ← Array.getElem?_toList, hcs, List.map_map, List.getElem?_map, List.getD_eq_getElem?_getD]
  have hl : c < ascF.length := by rw [show ascF.length = 128 by decide +kernel]; exact hc
  rw [List.getElem?_eq_getElem hl]
  rfl

theorem two_of {α : Type} {l : List α} (h : l.length = 2) : ∃ a b, l = [a, b] := by
  match l, h with
  | [a, b], _ => exact ⟨a, b, rfl⟩
def orbRow {H : Type} (x : Nat × Nat) : DataW H := .agg [.lit (.int .u16 (x.1 : Int)), .lit (.int .u16 (x.2 : Int))]
theorem orbD : Rows.laid_unicode_caseOrbit = (DataW.slice (orbT.map orbRow) [] : DataW Unit) := by kernel_rfl

section
variable {H : Type} {enc : TypeId × Value → H} {w : World} {base : Nat} {sp : Nat → Bool} {held : Bool}
theorem orbRow_cells {fuel : Nat} {cs : List Value} {x : Nat × Nat} {p : List MemPlace} (h : DataW.trod enc Tryz.prog w base sp held fuel 86 cs = some (orbRow x, p)) : cs = [.int .u16 (x.1 : Int), .int .u16 (x.2 : Int)] := by
  obtain ⟨xs, n, rfl, hx, hl, hxl, hall⟩ := DataW.trod_struct Tryz.underlying86 h
  rw [show Tryz.prog.cellsOf 86 = 2 by kernel_rfl] at hl
  have hx3 : xs.map (·.1) = [.lit (.int .u16 (x.1 : Int)), .lit (.int .u16 (x.2 : Int))] := by
    have := congrArg Prod.fst hx
    simpa [orbRow] using this.symm
  obtain ⟨x0, x1, rfl⟩ : ∃ x0 x1, xs = [x0, x1] := by
    match xs, hx3 with
    | [x0, x1], _ => exact ⟨x0, x1, rfl⟩
  simp only [List.map_cons, List.map_nil, List.cons.injEq, and_true] at hx3
  obtain ⟨e0, e1⟩ := hx3
  have f0 := hall 0 _ rfl
  have f1 := hall 1 _ rfl
  change DataW.trod _ _ _ _ _ _ _ 81 ((cs.drop 0).take (Tryz.prog.cellsOf 81)) = some x0 at f0
  change DataW.trod _ _ _ _ _ _ _ 81 ((cs.drop 1).take (Tryz.prog.cellsOf 81)) = some x1 at f1
  rw [show Tryz.prog.cellsOf 81 = 1 by kernel_rfl] at f0 f1
  have g0 : cs[0]? = some (.int .u16 (x.1 : Int)) := by
    obtain ⟨z, hz, hx', _⟩ := DataW.trod_int Tryz.underlying81 f0
    rw [hx'] at e0
    cases e0
    exact at_of_take hz
  have g1 : cs[1]? = some (.int .u16 (x.2 : Int)) := by
    obtain ⟨z, hz, hx', _⟩ := DataW.trod_int Tryz.underlying81 f1
    rw [hx'] at e1
    cases e1
    exact at_of_take hz
  clear hall f0 f1 h hx
  obtain ⟨c0, c1, rfl⟩ := two_of hl
  have k0 : c0 = _ := Option.some.inj g0
  have k1 : c1 = _ := Option.some.inj g1
  rw [k0, k1]
end

set_option maxRecDepth 100000 in
theorem orb_of {W : World} (hL : laidMet Tryz.prog Rows.fnSumFlattenNestedPrefixRow.laid W) :
    ∃ R oR cap, W.cell? ⟨1, 0, none⟩ = some (.slice (some ⟨R, oR, none⟩) 94 cap) ∧ ∀ i : Nat, i < 94 → W.cell? ⟨R, oR + i * 2, none⟩ = some (.int .u16 (((orbT.getD i (0, 0)).1 : Nat) : Int)) ∧ W.cell? ⟨R, oR + i * 2 + 1, none⟩ = some (.int .u16 (((orbT.getD i (0, 0)).2 : Nat) : Int)) := by
  obtain ⟨g, t, cs, fuel, p, hg, hty, hvar, hd⟩ := Lib.laidMet.reads hL (n := "unicode.caseOrbit") (d := Rows.laid_unicode_caseOrbit) (.tail _ (.tail _ (.head _)))
  obtain rfl := Option.some.inj ((show Tryz.prog.globalNamed "unicode.caseOrbit" = some 1 by kernel_rfl).symm.trans hg)
  obtain rfl := Option.some.inj ((show (Tryz.prog.globals[1]?).map (·.type) = some 83 by kernel_rfl).symm.trans hty)
  rw [orbD] at hd
  rcases DataW.trod_slice Tryz.underlying83 hd with ⟨_, hx'⟩ | ⟨a', len, cap, el, rs, m, rfl, hc0, hx', _, hlc, _, hel, helem, hsp, _⟩
  · cases hx'
  have e0 := congrArg Prod.fst hx'
  simp only [DataW.slice.injEq] at e0
  obtain ⟨eE, eR⟩ := e0
  have hlen : len = 94 := by
    have h1 := congrArg List.length eE
    rw [List.length_map, List.length_map, orb_len] at h1
    omega
  subst hlen
  have hrow : ∀ i, i < 94 → ∀ j, j < 2 → W.cell? ((a'.add (i * 2)).add j) = ([.int .u16 (((orbT.getD i (0, 0)).1 : Nat) : Int), .int .u16 (((orbT.getD i (0, 0)).2 : Nat) : Int)] : List Value)[j]? := by
    intro i hi j hj
    have h1 := helem i hi
    rw [show Tryz.prog.cellsOf 86 = 2 by kernel_rfl] at h1
    obtain ⟨b, hb⟩ : ∃ b, el[i]? = some b := ⟨el[i]'(by omega), List.getElem?_eq_getElem (by omega)⟩
    rw [hb] at h1
    obtain ⟨ce, hce, hte⟩ := Option.bind_eq_some_iff.1 h1
    have hb1 : b.1 = orbRow (orbT.getD i (0, 0)) := by
      have := congrArg (·[i]?) eE
      simp only [List.getElem?_map, hb, Option.map_some] at this
      have hi' : i < orbT.length := by rw [orb_len]; exact hi
      rw [List.getElem?_eq_getElem hi'] at this
      simp only [Option.map_some, Option.some.injEq] at this
      rw [← this, orb_at i hi]
    have hcs := orbRow_cells (p := b.2) (show _ = some (orbRow (orbT.getD i (0, 0)), b.2) by rw [← hb1]; exact hte)
    obtain ⟨_, _, hcc⟩ := World.cells?_some hce
    rw [hcc j hj, hcs]
  obtain ⟨R, oR, sR⟩ := a'
  obtain rfl : sR = none := by
    have h00 := hrow 0 (by omega) 0 (by omega)
    have : (Addr.add (Addr.add ⟨R, oR, sR⟩ (0 * 2)) 0) = ⟨R, oR, sR⟩ := by simp [Addr.add]
    rw [this] at h00
    exact cell_spot h00
  refine ⟨R, oR, cap, ?_, fun i hi => ?_⟩
  · rw [World.var?_cell hg hvar 0, ← Array.getElem?_toList, hc0]
    rfl
  · have k0 := hrow i hi 0 (by omega)
    have k1 := hrow i hi 1 (by omega)
    rw [Addr.add_lit, Addr.add_lit] at k0 k1
    exact ⟨by simpa using k0, by simpa using k1⟩

theorem eqTabs_of {W : World} (hL : laidMet Tryz.prog Rows.fnSumFlattenNestedPrefixRow.laid W) : EqTabs W := ⟨utf_of hL, ⟨asc_of hL, orb_of hL, case_of hL⟩⟩
end Go.Proofs.YtnoghiefpdbpbaaGreatFmt
