/-
  The laid variables of the row FnIsFontSizeDecidesWhetherMangleFontRewrites: what the walk reads of them.
-/
import Derived.Test.YtoeahdefgblmoaaGreatDoorRows
import Derived.Test.YtoeahdefgblmoaaGreatDoorL9
import Derived.ProofKit
import Derived.Lib.LaidTab
import Derived.Lib.LaidU8
import Derived.Lib.LaidCase
import Derived.WideKeyElems2
import Derived.WideKeyArgs
import Derived.Maps.OwnSet
import Derived.Lay
namespace Go.Proofs.YtoeahdefgblmoaaGreatDoor
open Go.ChangeShapes Go.WideShapes Go.ChangeAt Go.RowKit Go.Maps Go.Shelf Go.Lib

/-- A variable that is a map of bools, laid. -/
theorem map_of {W : World} {name : String} {g : Nat} {D : DataW Unit} (hg0 : Tryz.prog.globalNamed name = some g) (ht0 : (Tryz.prog.globals[g]?).map (·.type) = some 99) (hn : D ≠ .nil) (h : Lib.VarReads Tryz.prog W name D) : MapAt W g D := by
  obtain ⟨g', t, cs, fuel, p, hg, hty, hvar, hd⟩ := h
  obtain rfl := Option.some.inj (hg0.symm.trans hg)
  obtain rfl := Option.some.inj (ht0.symm.trans hty)
  rcases Go.WideElems.open_map Tryz.underlying99 hd with ⟨_, hx⟩ | ⟨b, es, clock, n, rfl, hcs, hb, _, F, hx⟩
  · exact absurd (congrArg Prod.fst hx) hn
  · have hD := congrArg Prod.fst hx
    have hown := World.ownsMap_of_fit (R := plainElem Tryz.prog 4) hb F (fun x _ z hz => by
      obtain ⟨bb, hv, hzz⟩ := Go.WideElems.elemAt_bool Tryz.underlying4 hz
      rw [hv, hzz]
      exact plainElem_bool Tryz.underlying4 bb)
    refine ⟨b, es.size, ?_, ?_⟩
    · have := World.var?_cell hg hvar 0
      rw [← Array.getElem?_toList, hcs] at this
      simpa using this
    · rw [show D = _ from hD]
      exact hown

section
variable {H : Type} {enc : TypeId × Value → H} {P : Program} {w : World} {base : Nat} {held : Bool}
theorem float_is {spare : Nat → Bool} {e : TypeId} {fuel : Nat} {v : Value} {b : Nat} {p : List MemPlace} (he : P.underlying e = some (.float .f64)) (h : DataW.trod enc P w base spare held fuel e [v] = some (.lit (.float .f64 b), p)) : v = .float .f64 b := by
  cases fuel with
  | zero => simp [DataW.trod] at h
  | succ n =>
    unfold DataW.trod at h
    rw [he] at h
    split at h <;> simp_all
end

/-- A variable that is a slice, laid: where it lies, and what each element's cells read as. -/
theorem slice_reads {W : World} {name : String} {g t e c : Nat} {ds : List (DataW Unit)} (hg0 : Tryz.prog.globalNamed name = some g) (ht0 : (Tryz.prog.globals[g]?).map (·.type) = some t) (hu : Tryz.prog.underlying t = some (.slice e)) (hc : Tryz.prog.cellsOf e = c) (hn : 0 < ds.length) (hcp : 0 < c)
    (h : Lib.VarReads Tryz.prog W name (.slice ds [])) :
    ∃ R oR cap, W.cell? ⟨g, 0, none⟩ = some (.slice (some ⟨R, oR, none⟩) ds.length cap) ∧
      ∀ i (hi : i < ds.length), ∃ ce fuel q, ce.length = c ∧ DataW.trod (fun _ => ()) Tryz.prog W 0 (fun _ => true) false fuel e ce = some (ds[i], q) ∧ ∀ j, j < c → W.cell? ⟨R, oR + i * c + j, none⟩ = ce[j]? := by
  obtain ⟨g', t', cs, fuel, p, hg, hty, hvar, hd⟩ := h
  obtain rfl := Option.some.inj (hg0.symm.trans hg)
  obtain rfl := Option.some.inj (ht0.symm.trans hty)
  rcases DataW.trod_slice hu hd with ⟨_, hx'⟩ | ⟨a', len, cap, el, rs, m, rfl, hc0, hx', _, hlc, _, hel, helem, hsp, _⟩
  · cases hx'
  have e0 := congrArg Prod.fst hx'
  simp only [DataW.slice.injEq] at e0
  obtain ⟨eE, eR⟩ := e0
  have hlen : len = ds.length := by
    have h1 := congrArg List.length eE
    rw [List.length_map] at h1
    omega
  subst hlen
  have hrow : ∀ i (hi : i < ds.length), ∃ ce q, ce.length = c ∧ DataW.trod (fun _ => ()) Tryz.prog W 0 (fun _ => true) false m e ce = some (ds[i], q) ∧ ∀ j, j < c → W.cell? ((a'.add (i * c)).add j) = ce[j]? := by
    intro i hi
    have h1 := helem i hi
    rw [hc] at h1
    obtain ⟨b, hb⟩ : ∃ b, el[i]? = some b := ⟨el[i]'(by omega), List.getElem?_eq_getElem (by omega)⟩
    rw [hb] at h1
    obtain ⟨ce, hce, hte⟩ := Option.bind_eq_some_iff.1 h1
    obtain ⟨_, hl, hcc⟩ := World.cells?_some hce
    have hb1 : b.1 = ds[i] := by
      have := congrArg (·[i]?) eE
      simp only [List.getElem?_map, hb, Option.map_some, List.getElem?_eq_getElem hi, Option.some.injEq] at this
      exact this.symm
    refine ⟨ce, b.2, hl, ?_, hcc⟩
    rw [hte, ← hb1]
  obtain ⟨R, oR, sR⟩ := a'
  obtain rfl : sR = none := by
    obtain ⟨ce, q, hl, _, h00⟩ := hrow 0 hn
    have h0 := h00 0 hcp
    obtain ⟨v, hv⟩ : ∃ v, ce[0]? = some v := ⟨ce[0]'(by omega), List.getElem?_eq_getElem (by omega)⟩
    rw [hv] at h0
    have : (Addr.add (Addr.add ⟨R, oR, sR⟩ (0 * c)) 0) = ⟨R, oR, sR⟩ := by simp [Addr.add]
    rw [this] at h0
    simpa using World.cell?_spot h0
  refine ⟨R, oR, cap, ?_, fun i hi => ?_⟩
  · rw [World.var?_cell hg hvar 0, ← Array.getElem?_toList, hc0]
    rfl
  · obtain ⟨ce, q, hl, ht, hcc⟩ := hrow i hi
    refine ⟨ce, m, q, hl, ht, fun j hj => ?_⟩
    have := hcc j hj
    rw [Addr.add_lit, Addr.add_lit] at this
    exact this

theorem opt_of {W : World} (h : Lib.VarReads Tryz.prog W "internal/strconv.optimize" Rows.laid_internal_strconv_optimize) : W.cell? ⟨10, 0, none⟩ = some (.bool true) := by
  obtain ⟨g, t, cs, fuel, p, hg, ht, hv, hd⟩ := h
  obtain rfl := Option.some.inj ((show Tryz.prog.globalNamed "internal/strconv.optimize" = some 10 by kernel_rfl).symm.trans hg)
  obtain rfl := Option.some.inj ((show (Tryz.prog.globals[10]?).map (·.type) = some 4 by kernel_rfl).symm.trans ht)
  obtain ⟨b, hcs, hx⟩ := DataW.trod_bool Tryz.underlying4 hd
  have hb : b = true := by simp [Rows.laid_internal_strconv_optimize] at hx; exact hx.1
  subst hb
  have := World.var?_cell hg hv 0
  rw [← Array.getElem?_toList, hcs] at this
  simpa using this

/-- Three fields of one cell each. -/
def threeFields : TypeDesc → Option (List (Nat × TypeId))
  | .struct fs => some (fs.toList.map fun f => (f.offset, f.type))
  | _ => none
theorem u162 : (Tryz.prog.underlying 162).bind threeFields = some [(0, 147), (1, 147), (2, 3)] := by kernel_rfl
theorem s162 : ∃ fs, Tryz.prog.underlying 162 = some (.struct fs) ∧ fs.toList.map (fun f => (f.offset, f.type)) = [(0, 147), (1, 147), (2, 3)] := by
  obtain ⟨d, hd, hf⟩ := Option.bind_eq_some_iff.1 u162
  unfold threeFields at hf
  split at hf
  · exact ⟨_, hd, Option.some.inj hf⟩
  · cases hf
theorem u147 : Tryz.prog.underlying 147 = some (.int .u64) := by kernel_rfl
theorem u3i : Tryz.prog.underlying 3 = some (.int .i64) := by kernel_rfl
theorem u91 : Tryz.prog.underlying 91 = some (.float .f64) := by kernel_rfl
theorem u204 : Tryz.prog.underlying 204 = some (.slice 91) := by kernel_rfl
theorem u203 : Tryz.prog.underlying 203 = some (.slice 3) := by kernel_rfl
theorem c147 : Tryz.prog.cellsOf 147 = 1 := by kernel_rfl
theorem c91 : Tryz.prog.cellsOf 91 = 1 := by kernel_rfl
theorem c3 : Tryz.prog.cellsOf 3 = 1 := by kernel_rfl

section
variable {H : Type} {enc : TypeId × Value → H} {w : World} {base : Nat} {held : Bool} {spare : Nat → Bool}
/-- A field of one cell that is a number. -/
theorem int_field {k : IntKind} {t : TypeId} {fuel off : Nat} {cs : List Value} {n : Int} {xs : List (DataW H × List MemPlace)} {i : Nat} (ht : Tryz.prog.underlying t = some (.int k)) (hc : Tryz.prog.cellsOf t = 1)
    (hx : (xs.map (·.1))[i]? = some (.lit (.int k n)))
    (h : DataW.trod enc Tryz.prog w base spare held fuel t ((cs.drop off).take (Tryz.prog.cellsOf t)) = xs[i]?) : cs[off]? = some (.int k n) := by
  rw [List.getElem?_map] at hx
  obtain ⟨x, hx0, hx1⟩ := Option.map_eq_some_iff.1 hx
  rw [hc, hx0] at h
  obtain ⟨m, h1, h2, _⟩ := DataW.trod_int ht h
  rw [h2] at hx1
  cases hx1
  exact at_of_take h1
theorem str_field {t : TypeId} {fuel off : Nat} {cs : List Value} {l : List UInt8} {xs : List (DataW H × List MemPlace)} {i : Nat} (ht : Tryz.prog.underlying t = some .string) (hc : Tryz.prog.cellsOf t = 1)
    (hx : (xs.map (·.1))[i]? = some (.lit (.string l)))
    (h : DataW.trod enc Tryz.prog w base spare held fuel t ((cs.drop off).take (Tryz.prog.cellsOf t)) = xs[i]?) : cs[off]? = some (.string ⟨l.toArray⟩) := by
  rw [List.getElem?_map] at hx
  obtain ⟨x, hx0, hx1⟩ := Option.map_eq_some_iff.1 hx
  rw [hc, hx0] at h
  obtain ⟨s, h1, h2, _⟩ := DataW.trod_string ht h
  rw [h2] at hx1
  cases hx1
  have := at_of_take h1
  rw [this]
end

theorem info_of {W : World} (h : Lib.VarReads Tryz.prog W "internal/strconv.float64info" Rows.laid_internal_strconv_float64info) :
    W.cell? ⟨11, 0, none⟩ = some (.int .u64 52) ∧ W.cell? ⟨11, 1, none⟩ = some (.int .u64 11) ∧ W.cell? ⟨11, 2, none⟩ = some (.int .i64 (-1023)) := by
  obtain ⟨g, t, cs, fuel, p, hg, ht, hv, hd⟩ := h
  obtain rfl := Option.some.inj ((show Tryz.prog.globalNamed "internal/strconv.float64info" = some 11 by kernel_rfl).symm.trans hg)
  obtain rfl := Option.some.inj ((show (Tryz.prog.globals[11]?).map (·.type) = some 162 by kernel_rfl).symm.trans ht)
  obtain ⟨fs, hu, hfs⟩ := s162
  obtain ⟨xs, n, rfl, hx, hl, hxl, hall⟩ := DataW.trod_struct hu hd
  have hxs : xs.map (·.1) = [.lit (.int .u64 52), .lit (.int .u64 11), .lit (.int .i64 (-1023))] := by
    have := congrArg Prod.fst hx
    simpa [Rows.laid_internal_strconv_float64info] using this.symm
  have hf : ∀ (i o : Nat) (y : TypeId), (fs.toList.map fun f => (f.offset, f.type))[i]? = some (o, y) → DataW.trod (fun _ => ()) Tryz.prog W 0 (fun _ => true) false n y ((cs.toList.drop o).take (Tryz.prog.cellsOf y)) = xs[i]? := by
    intro i o y h
    rw [List.getElem?_map] at h
    obtain ⟨f, h1, h2⟩ := Option.map_eq_some_iff.1 h
    cases h2
    exact hall i f (by rw [← Array.getElem?_toList]; exact h1)
  rw [hfs] at hf
  have k0 := int_field (i := 0) (n := 52) u147 c147 (by rw [hxs]; rfl) (hf 0 0 147 rfl)
  have k1 := int_field (i := 1) (n := 11) u147 c147 (by rw [hxs]; rfl) (hf 1 1 147 rfl)
  have k2 := int_field (i := 2) (n := -1023) u3i c3 (by rw [hxs]; rfl) (hf 2 2 3 rfl)
  refine ⟨?_, ?_, ?_⟩
  · rw [World.var?_cell hg hv 0, ← Array.getElem?_toList]; exact k0
  · rw [World.var?_cell hg hv 1, ← Array.getElem?_toList]; exact k1
  · rw [World.var?_cell hg hv 2, ← Array.getElem?_toList]; exact k2

def powL : List Nat := [1, 3, 6, 9, 13, 16, 19, 23, 26]
theorem powD : (Rows.laid_internal_strconv_powtab : DataW Unit) = .slice (powL.map fun (n : Nat) => .lit (.int .i64 (n : Int))) [] := by kernel_rfl
theorem pow_of {W : World} (h : Lib.VarReads Tryz.prog W "internal/strconv.powtab" Rows.laid_internal_strconv_powtab) :
    ∃ R o cap, W.cell? ⟨13, 0, none⟩ = some (.slice (some ⟨R, o, none⟩) 9 cap) ∧ ∀ i, i < 9 → ∃ n : Nat, 1 ≤ n ∧ n ≤ 27 ∧ W.cell? ⟨R, o + i, none⟩ = some (.int .i64 n) := by
  rw [powD] at h
  obtain ⟨R, o, cap, h1, h2⟩ := slice_reads (g := 13) (t := 203) (e := 3) (c := 1) (by kernel_rfl) (by kernel_rfl) u203 c3 (by decide) (by omega) h
  refine ⟨R, o, cap, h1, fun i hi => ?_⟩
  obtain ⟨ce, fuel, q, hl, ht, hc⟩ := h2 i (by rw [List.length_map]; exact hi)
  have hc0 := hc 0 (by omega)
  rw [List.getElem_map] at ht
  obtain ⟨m, e1, e2, _⟩ := DataW.trod_int u3i ht
  cases e2
  have hall : ∀ k : Fin 9, 1 ≤ powL[k.val]'(k.isLt) ∧ powL[k.val]'(k.isLt) ≤ 27 := by decide
  refine ⟨powL[i]'hi, (hall ⟨i, hi⟩).1, (hall ⟨i, hi⟩).2, ?_⟩
  rw [e1] at hc0
  rw [Nat.mul_one, Nat.add_zero] at hc0
  exact hc0

def floats : DataW Unit → Bool
  | .slice l [] => l.length == 23 && l.all fun d => match d with | .lit (.float .f64 _) => true | _ => false
  | _ => false
theorem tenD : floats Rows.laid_internal_strconv_float64pow10 = true := by kernel_rfl
theorem ten_of {W : World} (h : Lib.VarReads Tryz.prog W "internal/strconv.float64pow10" Rows.laid_internal_strconv_float64pow10) : Tens W := by
  have hf := tenD
  obtain ⟨D, hD⟩ : ∃ D, D = (Rows.laid_internal_strconv_float64pow10 : DataW Unit) := ⟨_, rfl⟩
  rw [← hD] at h hf
  clear hD
  unfold floats at hf
  split at hf
  rotate_left
  · cases hf
  rename_i l
  simp only [Bool.and_eq_true, beq_iff_eq] at hf
  obtain ⟨h23, hall⟩ := hf
  obtain ⟨R, o, cap, h1, h2⟩ := slice_reads (g := 14) (t := 204) (e := 91) (c := 1) (by kernel_rfl) (by kernel_rfl) u204 c91 (by omega) (by omega) h
  rw [h23] at h1
  refine ⟨R, o, cap, h1, fun i hi => ?_⟩
  obtain ⟨ce, fuel, q, hl, ht, hc⟩ := h2 i (by omega)
  have hc0 := hc 0 (by omega)
  have ha := List.all_eq_true.1 hall (l[i]'(by omega)) (List.getElem_mem _)
  split at ha
  · rename_i x hx
    rw [hx] at ht
    obtain ⟨v, rfl⟩ : ∃ v, ce = [v] := by
      match ce, hl with
      | [v], _ => exact ⟨v, rfl⟩
    have hv := float_is u91 ht
    subst hv
    exact ⟨x, by simpa using hc0⟩
  · cases ha

theorem u156 : Tryz.prog.underlying 156 = some (.int .u64) := by kernel_rfl
theorem c156 : Tryz.prog.cellsOf 156 = 1 := by kernel_rfl
theorem u209 : Tryz.prog.underlying 209 = some (.array 696 208) := by kernel_rfl
theorem c208 : Tryz.prog.cellsOf 208 = 2 := by kernel_rfl
theorem u208 : (Tryz.prog.underlying 208).bind threeFields = some [(0, 156), (1, 156)] := by kernel_rfl
theorem fields_of {t : TypeId} {l : List (Nat × TypeId)} (h : (Tryz.prog.underlying t).bind threeFields = some l) : ∃ fs, Tryz.prog.underlying t = some (.struct fs) ∧ fs.toList.map (fun f => (f.offset, f.type)) = l := by
  obtain ⟨d, hd, hf⟩ := Option.bind_eq_some_iff.1 h
  unfold threeFields at hf
  split at hf
  · exact ⟨_, hd, Option.some.inj hf⟩
  · cases hf
section
variable {H : Type} {enc : TypeId × Value → H} {w : World} {base : Nat} {held : Bool} {spare : Nat → Bool}
theorem struct_reads {t : TypeId} {l : List (Nat × TypeId)} (h : (Tryz.prog.underlying t).bind threeFields = some l) {fuel : Nat} {cs : List Value} {x : DataW H × List MemPlace}
    (hd : DataW.trod enc Tryz.prog w base spare held fuel t cs = some x) :
    ∃ (xs : List (DataW H × List MemPlace)) (n : Nat), x.1 = .agg (xs.map (·.1)) ∧ xs.length = l.length ∧ cs.length = Tryz.prog.cellsOf t ∧
      ∀ (i o : Nat) (y : TypeId), l[i]? = some (o, y) → DataW.trod enc Tryz.prog w base spare held n y ((cs.drop o).take (Tryz.prog.cellsOf y)) = xs[i]? := by
  obtain ⟨fs, hu, hfs⟩ := fields_of h
  obtain ⟨xs, n, rfl, hx, hl, hxl, hall⟩ := DataW.trod_struct hu hd
  refine ⟨xs, n, congrArg Prod.fst hx, ?_, hl, ?_⟩
  · rw [← hfs, List.length_map, Array.length_toList]; exact hxl
  · intro i o y h
    rw [← hfs, List.getElem?_map] at h
    obtain ⟨f, h1, h2⟩ := Option.map_eq_some_iff.1 h
    cases h2
    exact hall i f (by rw [← Array.getElem?_toList]; exact h1)
end

theorem ptab_of {W : World} (h : Lib.VarReads Tryz.prog W "internal/strconv.pow10Tab" Rows.laid_internal_strconv_pow10Tab) : PTab W := by
  obtain ⟨g, t, cs, fuel, p, hg, ht, hv, hd⟩ := h
  obtain rfl := Option.some.inj ((show Tryz.prog.globalNamed "internal/strconv.pow10Tab" = some 15 by kernel_rfl).symm.trans hg)
  obtain rfl := Option.some.inj ((show (Tryz.prog.globals[15]?).map (·.type) = some 209 by kernel_rfl).symm.trans ht)
  rw [show Rows.laid_internal_strconv_pow10Tab = Go.Pinned.pow10Tab from rfl, Go.Pinned.pow10Tab] at hd
  intro i hi
  obtain ⟨fuel', d, q, _, he⟩ := array_elem u209 hd i hi
  rw [c208] at he
  obtain ⟨xs, n, _, hxl, _, hall⟩ := struct_reads u208 he
  have hone : ∀ k, k < 2 → ∃ x, cs[i * 2 + k]? = some (.int .u64 x) := by
    intro k hk
    have h1 := hall k k 156 (by match k, hk with | 0, _ => rfl | 1, _ => rfl)
    obtain ⟨b, hb⟩ : ∃ b, xs[k]? = some b := ⟨xs[k]'(by rw [hxl]; exact hk), List.getElem?_eq_getElem _⟩
    rw [c156, hb] at h1
    obtain ⟨m, e1, _, _⟩ := DataW.trod_int u156 h1
    have e2 := at_of_take e1
    rw [List.getElem?_take, if_pos hk, List.getElem?_drop, Array.getElem?_toList] at e2
    exact ⟨m, e2⟩
  obtain ⟨x0, h0⟩ := hone 0 (by omega)
  obtain ⟨x1, h1⟩ := hone 1 (by omega)
  exact ⟨⟨x0, (World.var?_cell hg hv _).trans h0⟩, ⟨x1, (World.var?_cell hg hv _).trans h1⟩⟩

def cheatRow (x : Nat × List Nat) : DataW Unit := .agg [.lit (.int .i64 (x.1 : Int)), .lit (.string (x.2.map fun d => UInt8.ofNat (48 + d)))]
theorem cheatD : Rows.laid_internal_strconv_leftcheats = .slice (Go.Dec.cheats.map cheatRow) [] := by kernel_rfl
theorem cheat_len : Go.Dec.cheats.length = 61 := by decide +kernel
theorem u220 : Tryz.prog.underlying 220 = some (.slice 219) := by kernel_rfl
theorem c219 : Tryz.prog.cellsOf 219 = 2 := by kernel_rfl
theorem u219 : (Tryz.prog.underlying 219).bind threeFields = some [(0, 3), (1, 9)] := by kernel_rfl
theorem u9s : Tryz.prog.underlying 9 = some .string := by kernel_rfl
theorem c9 : Tryz.prog.cellsOf 9 = 1 := by kernel_rfl
theorem cheats_of {W : World} (h : Lib.VarReads Tryz.prog W "internal/strconv.leftcheats" Rows.laid_internal_strconv_leftcheats) : Cheats W := by
  rw [cheatD] at h
  obtain ⟨R, o, cap, h1, h2⟩ := slice_reads (g := 16) (t := 220) (e := 219) (c := 2) (by kernel_rfl) (by kernel_rfl) u220 c219 (by rw [List.length_map, cheat_len]; omega) (by omega) h
  rw [List.length_map, cheat_len] at h1
  refine ⟨R, o, cap, h1, fun k hk => ?_⟩
  obtain ⟨ce, fuel, q, hl, ht, hc⟩ := h2 k (by rw [List.length_map, cheat_len]; exact hk)
  rw [List.getElem_map] at ht
  have hk' : k < Go.Dec.cheats.length := by rw [cheat_len]; exact hk
  have eg : Go.Dec.cheats.getD k (0, []) = Go.Dec.cheats[k] := by
    rw [List.getD_eq_getElem?_getD, List.getElem?_eq_getElem hk']; rfl
  rw [eg]
  generalize Go.Dec.cheats[k] = x at ht
  obtain ⟨xs, n, hx, hxl, hcl, hall⟩ := struct_reads u219 ht
  have hxs : xs.map (·.1) = [.lit (.int .i64 (x.1 : Int)), .lit (.string (x.2.map fun d => UInt8.ofNat (48 + d)))] := by
    simp only [cheatRow, DataW.agg.injEq] at hx
    exact hx.symm
  have k0 := int_field (i := 0) (n := (x.1 : Int)) u3i c3 (by rw [hxs]; rfl) (hall 0 0 3 rfl)
  have k1 := str_field (i := 1) (l := x.2.map fun d => UInt8.ofNat (48 + d)) u9s c9 (by rw [hxs]; rfl) (hall 1 1 9 rfl)
  have j0 := hc 0 (by omega)
  have j1 := hc 1 (by omega)
  rw [k0] at j0
  rw [k1] at j1
  exact ⟨j0, j1⟩

theorem laid_places {P : Program} {w : World} : ∀ {l : List (String × DataW Unit)} {ps : List MemPlace}, DataW.LaidVars P w l ps → ∀ n d, (n, d) ∈ l →
    ∃ g t cs fuel p, P.globalNamed n = some g ∧ (P.globals[g]?).map (·.type) = some t ∧ w.var? P n = some cs ∧ DataW.trod (fun _ => ()) P w 0 (fun _ => true) false fuel t cs.toList = some (d, p) ∧ ∀ i, i < cs.size → MemPlace.cell g i ∈ ps
  | [], _, _, _, _, hm => by cases hm
  | (n', d') :: r, ps, h, n, d, hm => by
    obtain ⟨g, t, cs, fuel, p, q, h1, h2, h3, h4, h5, rfl⟩ := h
    rcases List.mem_cons.1 hm with e | e
    · cases e
      refine ⟨g, t, cs, fuel, p, h1, h2, h3, h4, fun i hi => ?_⟩
      simp only [List.mem_append]
      exact .inl (.inl (List.mem_map.2 ⟨i, List.mem_range.2 hi, by simp⟩))
    · obtain ⟨g, t, cs, fuel, p, k1, k2, k3, k4, k5⟩ := laid_places h5 n d e
      exact ⟨g, t, cs, fuel, p, k1, k2, k3, k4, fun i hi => List.mem_append.2 (.inr (k5 i hi))⟩
theorem blk_of {W : World} {l : List (String × DataW Unit)} (hL : laidMet Tryz.prog l W) {n : String} {d : DataW Unit} {g t : Nat} (hm : (n, d) ∈ l) (hg : Tryz.prog.globalNamed n = some g) (ht : (Tryz.prog.globals[g]?).map (·.type) = some t) (hs : (Tryz.prog.underlying t).bind threeFields = some [(0, 147), (1, 147), (2, 3)]) (hc : Tryz.prog.cellsOf t = 3) :
    ∃ c t, W.heap[g]? = some (.cells c t (0, 0)) := by
  obtain ⟨ps, hv, _, hfz⟩ := hL
  obtain ⟨g', t', cs, fuel, p, k1, k2, k3, k4, k5⟩ := laid_places hv n d hm
  obtain rfl := Option.some.inj (hg.symm.trans k1)
  obtain rfl := Option.some.inj (ht.symm.trans k2)
  obtain ⟨xs, m, _, _, hcl, _⟩ := struct_reads hs k4
  rw [hc, Array.length_toList] at hcl
  exact (hfz g 0 (k5 0 (by omega))).1

theorem trod_face {H : Type} {enc : TypeId × Value → H} {P : Program} {w : World} {base : Nat} {spare : Nat → Bool} {held : Bool} {fuel : Nat} {t : TypeId} {cs : List Value} {s : String} {d : DataW H} {p : List MemPlace} (ht : ∃ ms, P.underlying t = some (.interface ms))
    (h : DataW.trod enc P w base spare held fuel t cs = some (.iface s d, p)) : ∃ u v, cs = [.iface u v] := by
  obtain ⟨ms, ht⟩ := ht
  cases fuel with
  | zero => simp [DataW.trod] at h
  | succ n =>
    unfold DataW.trod at h
    rw [ht] at h
    split at h <;> simp_all
def isFace : TypeDesc → Bool
  | .interface _ => true
  | _ => false
theorem u93 : ∃ ms, Tryz.prog.underlying 93 = some (.interface ms) := by
  have h : (Tryz.prog.underlying 93).map isFace = some true := by kernel_rfl
  obtain ⟨d, hd, hf⟩ := Option.map_eq_some_iff.1 h
  unfold isFace at hf
  split at hf
  · exact ⟨_, hd⟩
  · cases hf
theorem err_of {W : World} {n s : String} {d : DataW Unit} {g : Nat} (hg0 : Tryz.prog.globalNamed n = some g) (ht0 : (Tryz.prog.globals[g]?).map (·.type) = some 93) (h : Lib.VarReads Tryz.prog W n (.iface s d)) : ∃ u v, W.cell? ⟨g, 0, none⟩ = some (.iface u v) := by
  obtain ⟨g', t, cs, fuel, p, hg, ht, hv, hd⟩ := h
  obtain rfl := Option.some.inj (hg0.symm.trans hg)
  obtain rfl := Option.some.inj (ht0.symm.trans ht)
  obtain ⟨u, v, h⟩ := trod_face u93 hd
  have hc := World.var?_cell hg hv 0
  rw [← Array.getElem?_toList, h] at hc
  exact ⟨u, v, by simpa using hc⟩

theorem u8x : U8Extra Tryz.prog Tryz.lays260_ren := ⟨by kernel_rfl, by kernel_rfl, by kernel_rfl, by kernel_rfl, by kernel_rfl, by kernel_rfl, by kernel_rfl⟩
def caseRen : Go.Shelf.Ren := ⟨Tryz.lays274_ren.f, Tryz.lays274_ren.t, fun | 13 => 2 | n => n⟩
theorem casex : CaseExtra Tryz.prog caseRen := ⟨by kernel_rfl, by kernel_rfl, by kernel_rfl, by kernel_rfl, by kernel_rfl, by kernel_rfl⟩
theorem firstD : Rows.laid_unicode_utf8_first = Lib.firstData := by kernel_rfl
theorem acceptD : Rows.laid_unicode_utf8_acceptRanges = Lib.acceptData := by kernel_rfl
theorem caseD : Rows.laid_unicode_CaseRanges = Lib.caseData := by kernel_rfl

abbrev laidF : List (String × DataW Unit) := Rows.fnIsFontSizeDecidesWhetherMangleFontRewritesRow.laid
theorem uni_of {W : World} (hL : laidMet Tryz.prog laidF W) : Uni W := by
  refine ⟨?_, ?_⟩
  · exact caseVar_of_reads (P := Tryz.prog) (ρ := caseRen) { mixed := Tryz.lays274.mixed, f274 := Tryz.lays274.f274, t0 := Tryz.lays274.t0, a0 := Tryz.lays274.a0, z0 := Tryz.lays274.z0, v0 := Tryz.lays274.v0, t3 := Tryz.lays274.t3, a3 := Tryz.lays274.a3, z3 := Tryz.lays274.z3, v3 := Tryz.lays274.v3, t4 := Tryz.lays274.t4, a4 := Tryz.lays274.a4, z4 := Tryz.lays274.z4, v4 := Tryz.lays274.v4, t21 := Tryz.lays274.t21, a21 := Tryz.lays274.a21, z21 := Tryz.lays274.z21, v21 := Tryz.lays274.v21, t46 := Tryz.lays274.t46, a46 := Tryz.lays274.a46, z46 := Tryz.lays274.z46, v46 := Tryz.lays274.v46, t51 := Tryz.lays274.t51, a51 := Tryz.lays274.a51, z51 := Tryz.lays274.z51, v51 := Tryz.lays274.v51, t160 := Tryz.lays274.t160, a160 := Tryz.lays274.a160, z160 := Tryz.lays274.z160, v160 := Tryz.lays274.v160, t162 := Tryz.lays274.t162, a162 := Tryz.lays274.a162, z162 := Tryz.lays274.z162, v162 := Tryz.lays274.v162, t208 := Tryz.lays274.t208, a208 := Tryz.lays274.a208, z208 := Tryz.lays274.z208, v208 := Tryz.lays274.v208 } (by kernel_rfl) casex
      (caseD ▸ Lib.laidMet.reads hL (n := "unicode.CaseRanges") (d := Rows.laid_unicode_CaseRanges) (.tail _ (.tail _ (.tail _ (.tail _ (.tail _ (.tail _ (.tail _ (.tail _ (.tail _ (.tail _ (.tail _ (.tail _ (.tail _ (.tail _ (.tail _ (.tail _ (.tail _ (.head _)))))))))))))))))))
  · exact utf8Tabs_of_reads (P := Tryz.prog) (ρ := Tryz.lays260_ren) Tryz.lays260 u8x
      (firstD ▸ Lib.laidMet.reads hL (n := "unicode/utf8.first") (d := Rows.laid_unicode_utf8_first) (.tail _ (.tail _ (.tail _ (.tail _ (.tail _ (.tail _ (.tail _ (.tail _ (.tail _ (.tail _ (.tail _ (.tail _ (.tail _ (.tail _ (.tail _ (.tail _ (.tail _ (.tail _ (.head _))))))))))))))))))))
      (acceptD ▸ Lib.laidMet.reads hL (n := "unicode/utf8.acceptRanges") (d := Rows.laid_unicode_utf8_acceptRanges) (.tail _ (.tail _ (.tail _ (.tail _ (.tail _ (.tail _ (.tail _ (.tail _ (.tail _ (.head _)))))))))))
theorem flt_of {W : World} (hL : laidMet Tryz.prog laidF W) : Flt W := by
  obtain ⟨i0, i1, i2⟩ := info_of (Lib.laidMet.reads hL (.tail _ (.tail _ (.tail _ (.head _)))))
  exact ⟨i0, i1, i2, pow_of (Lib.laidMet.reads hL (.tail _ (.tail _ (.tail _ (.tail _ (.tail _ (.head _))))))), cheats_of (Lib.laidMet.reads hL (.tail _ (.tail _ (.tail _ (.tail _ (.tail _ (.tail _ (.tail _ (.tail _ (.tail _ (.tail _ (.tail _ (.tail _ (.tail _ (.tail _ (.tail _ (.head _)))))))))))))))))⟩
theorem pf_of {W : World} (hL : laidMet Tryz.prog laidF W) : PF W := by
  refine ⟨?_, flt_of hL, ?_, ?_, ?_, ?_⟩
  · exact opt_of (Lib.laidMet.reads hL (.tail _ (.tail _ (.tail _ (.tail _ (.head _))))))
  · exact ten_of (Lib.laidMet.reads hL (.tail _ (.tail _ (.tail _ (.tail _ (.tail _ (.tail _ (.head _))))))))
  · exact ptab_of (Lib.laidMet.reads hL (.tail _ (.tail _ (.tail _ (.tail _ (.tail _ (.tail _ (.tail _ (.tail _ (.tail _ (.tail _ (.tail _ (.tail _ (.tail _ (.tail _ (.tail _ (.tail _ (.head _))))))))))))))))))
  · exact blk_of hL (n := "internal/strconv.float32info") (d := Rows.laid_internal_strconv_float32info) (g := 9) (t := 162) (.tail _ (.tail _ (.head _))) (by kernel_rfl) (by kernel_rfl) u162 (by kernel_rfl)
  · exact blk_of hL (n := "internal/strconv.float64info") (d := Rows.laid_internal_strconv_float64info) (g := 11) (t := 162) (.tail _ (.tail _ (.tail _ (.head _)))) (by kernel_rfl) (by kernel_rfl) u162 (by kernel_rfl)
theorem maps_of {W : World} (hL : laidMet Tryz.prog laidF W) : MapAt W 0 KW ∧ MapAt W 1 GF := by
  refine ⟨?_, ?_⟩
  · exact map_of (name := "github.com/evanw/esbuild/internal/css_parser.fontSizeKeywords") (by kernel_rfl) (by kernel_rfl) (fun h => by cases h) (Lib.laidMet.reads hL (.tail _ (.tail _ (.tail _ (.tail _ (.tail _ (.tail _ (.tail _ (.tail _ (.tail _ (.tail _ (.tail _ (.tail _ (.head _))))))))))))))
  · exact map_of (name := "github.com/evanw/esbuild/internal/css_parser.genericFamilyNames") (by kernel_rfl) (by kernel_rfl) (fun h => by cases h) (Lib.laidMet.reads hL (.tail _ (.tail _ (.tail _ (.tail _ (.tail _ (.tail _ (.tail _ (.tail _ (.tail _ (.tail _ (.tail _ (.tail _ (.tail _ (.tail _ (.head _))))))))))))))))
theorem errs_of {W : World} (hL : laidMet Tryz.prog laidF W) : (∃ u v, W.cell? ⟨3, 0, none⟩ = some (.iface u v)) ∧ ∃ u v, W.cell? ⟨4, 0, none⟩ = some (.iface u v) := by
  refine ⟨?_, ?_⟩
  · exact err_of (n := "strconv.ErrSyntax") (by kernel_rfl) (by kernel_rfl) (Lib.laidMet.reads hL (.tail _ (.tail _ (.tail _ (.tail _ (.tail _ (.tail _ (.tail _ (.tail _ (.tail _ (.tail _ (.tail _ (.head _)))))))))))))
  · exact err_of (n := "strconv.ErrRange") (by kernel_rfl) (by kernel_rfl) (Lib.laidMet.reads hL (.tail _ (.tail _ (.tail _ (.tail _ (.tail _ (.tail _ (.tail _ (.tail _ (.tail _ (.tail _ (.head _))))))))))))

/-- The whole walk of the law. -/
theorem fnIsFontSizeDecidesWhetherMangleFontRewrites_walk (k : Int) (s : ByteArray) (ws : Int) (b : Bool) (W : World) (hL : laidMet Tryz.prog laidF W) :
    Calls Tryz.prog 3 #[.int .u8 k, .string s, .int .u8 ws, .bool b] W fun e w' => e = .returned (.bool true) ∧ Below W.heap.size W w' := by
  by_cases hs : s.size ≤ 1048576
  · have hE : ∀ T capT L W', Below W.heap.size W W' → RowAt W' T capT L → Env1 W' T capT L := fun T capT L W' hb hr =>
      ⟨hr, (maps_of hL).1.below hb, (uni_of hL).below hb, (pf_of hL).below hb, (errs_of hL).1.imp fun _ h => h.imp fun _ h => cell_later hb h, (errs_of hL).2.imp fun _ h => h.imp fun _ h => cell_later hb h⟩
    cases hz : isSz k (lowT s)
    · exact law_none k ws s b W hs hE (maps_of hL).2 hz
    · exact law_size k ws s b W hs hE (maps_of hL).2 hz
  · exact law_great k ws s b W (by omega)
end Go.Proofs.YtoeahdefgblmoaaGreatDoor
