/-
  The keyword tables looked up; strings.ToLower at known texts; isFontSize, mangleFontWeight, IsAngle.
-/
import Derived.Test.YtoeahdefgblmoaaGreatDoorB
import Derived.Test.YtoeahdefgblmoaaGreatDoorX
import Derived.Test.YtoeahdefgblmoaaGreatDoorRows
import Derived.Maps.OwnSet
import Derived.Deep.RegionWith
import Derived.Lib.QuietBelow
import Derived.Deep.QuietTactic
namespace Go.Proofs.YtoeahdefgblmoaaGreatDoor
open Go.RowKit Go.Deep Go.PlainAid Go.Maps Go.Sort

/-- The variable g holds the map that reads as D. -/
def MapAt (w : World) (g : Nat) (D : DataW Unit) : Prop := ∃ b n, w.cell? ⟨g, 0, none⟩ = some (.map (some b)) ∧ w.ownsMap Tryz.prog 9 (plainElem Tryz.prog 4) b n D

theorem MapAt.below {w w' : World} {g : Nat} {D : DataW Unit} (h : MapAt w g D) (hb : Below w.heap.size w w') : MapAt w' g D := by
  obtain ⟨b, n, h1, es, clock, h2, h3⟩ := h
  exact ⟨b, n, cell_later hb h1, es, clock, (hb.block b (Array.getElem?_eq_some_iff.1 h2).1).trans h2, h3⟩

theorem law9 : Keyed Tryz.prog 9 := string_keyed Tryz.underlying9

theorem bool_inv {H : Type} {P : Program} {e : TypeId} (he : P.underlying e = some .bool) {v : Value} {z : DataW H × List MemPlace} (h : plainElem P e v = some z) : ∃ x, v = .bool x ∧ z = (.lit (.bool x), []) := by
  unfold plainElem at h
  rw [he] at h
  cases v <;> simp at h
  exact ⟨_, rfl, h.symm⟩

/-- What the map says at a text. -/
theorem MapAt.look {w : World} {g : Nat} {D : DataW Unit} (h : MapAt w g D) (s : ByteArray) (hs : s.size ≤ maxLen) : ∃ b v, w.cell? ⟨g, 0, none⟩ = some (.map (some b)) ∧
    (∀ w', Below w.heap.size w w' → (Instr.lookup 99 (.map (some b)) (.string s) true).run Tryz.prog w' = .ok (.tuple #[.bool v, .bool (Maps.has D (.string s.data.toList))]) w') ∧
    (∀ w', Below w.heap.size w w' → (Instr.lookup 99 (.map (some b)) (.string s) false).run Tryz.prog w' = .ok (.bool v) w') ∧ D.atKey (.string s.data.toList) (.lit (.bool false)) = .lit (.bool v) := by
  obtain ⟨b, n, h1, hown⟩ := h
  have hz : ∀ w', (zeroValue 4).run Tryz.prog w' = .ok (.bool false) w' := fun w' => by simp [Tryz.zeroValue4]
  have inv : ∀ (v : Value) (ps : List MemPlace), plainElem (H := Unit) Tryz.prog 4 v = some (D.atKey (.string s.data.toList) (.lit (.bool false)), ps) → ∃ x, v = .bool x ∧ D.atKey (.string s.data.toList) (.lit (.bool false)) = .lit (.bool x) := fun v ps hv => by
    obtain ⟨x, e1, e2⟩ := bool_inv Tryz.underlying4 hv
    exact ⟨x, e1, congrArg Prod.fst e2⟩
  have hkey : keyOf Tryz.prog 9 (.string s) = some (.string s.data.toList) := WideMaps.keyOf_string_mk Tryz.underlying9 hs
  have ho : ∀ w', Below w.heap.size w w' → w'.ownsMap Tryz.prog 9 (plainElem Tryz.prog 4) b n D := fun w' hb => by
    obtain ⟨es, clock, h2, h3⟩ := hown
    exact ⟨es, clock, (hb.block b (Array.getElem?_eq_some_iff.1 h2).1).trans h2, h3⟩
  obtain ⟨v, ps, _, hv⟩ := hown.lookup law9 Tryz.underlying99 (hz w) (plainElem_bool Tryz.underlying4 false) hkey
  obtain ⟨x, rfl, hx⟩ := inv v ps hv
  refine ⟨b, x, h1, fun w' hb => ?_, fun w' hb => ?_, hx⟩
  · obtain ⟨v2, ps2, hr2, hv2⟩ := (ho w' hb).look_ok law9 Tryz.underlying99 (hz w') (plainElem_bool Tryz.underlying4 false) hkey
    obtain ⟨x2, rfl, hx2⟩ := inv v2 ps2 hv2
    rw [hx] at hx2
    cases hx2
    exact hr2
  · obtain ⟨v2, ps2, hr2, hv2⟩ := (ho w' hb).lookup law9 Tryz.underlying99 (hz w') (plainElem_bool Tryz.underlying4 false) hkey
    obtain ⟨x2, rfl, hx2⟩ := inv v2 ps2 hv2
    rw [hx] at hx2
    cases hx2
    exact hr2

/-- A text in small letters that a known text turns into. -/
def Low (s l : ByteArray) : Prop := s.size ≤ 1000 ∧ (s.data.toList.all fun b => decide (b.toNat < 128)) = true ∧ (⟨(Lib.toLowerA s.data.toList).toArray⟩ : ByteArray) = l

theorem low_any {s l : ByteArray} (h : Low s l) (w : World) : Calls Tryz.prog 19 #[.string s] w fun e w' => e = .returned (.string l) ∧ Below w.heap.size w w' := by
  obtain ⟨h1, h2, h3⟩ := h
  have h4 := Tryz.strings_ToLower_ascii s w (by omega) (fun j b hb => by simpa using List.all_eq_true.1 h2 b (List.mem_of_getElem? hb))
  rw [h3] at h4
  exact h4
theorem Low.size {s l : ByteArray} (h : Low s l) : l.size ≤ 1000 := by
  obtain ⟨h1, _, h3⟩ := h
  subst h3
  have : (⟨(Lib.toLowerA s.data.toList).toArray⟩ : ByteArray).size = s.size := by
    show (Lib.toLowerA s.data.toList).toArray.size = s.size
    unfold Lib.toLowerA
    rw [List.size_toArray, List.length_map, Array.length_toList]
    rfl
  omega

abbrev KW : DataW Unit := Rows.laid_github_com_evanw_esbuild_internal_css_parser_fontSizeKeywords
abbrev GF : DataW Unit := Rows.laid_github_com_evanw_esbuild_internal_css_parser_genericFamilyNames

theorem wpList_lookup_run {ops : Array Oper} {rest : List Oper} {o : Oper} {a : Act} {Q : Exit → Act → World → Prop} (w : World) (hg : o.guard = none) (m x : Operand) (t : TypeId) (c : Bool) (hop : o.op = Op.lookup t m x c)
    {mv kv r : Value} (hm : a.eval m = mv) (hx : a.eval x = kv) (hr : (Instr.lookup t mv kv c).run Tryz.prog w = .ok r w) (h : wpList Tryz.prog ops Q rest (a.put o.dst r) w) : wpList Tryz.prog ops Q (o :: rest) a w := by
  refine wpList_plain hg fun K' hK' => ?_
  unfold Oper.wp
  simp [execOp, hop, hm, hx, hr, Result.andThen]
  exact hK' _ _ h

/-- A look-up in a region that draws, whose callees end in 'Below'. -/
theorem quiet_lookup {ops : Array Oper} {C : World → Prop} {Q : Act → Prop} {a : Act} {o : Oper} {rest : List Oper} (hg : o.guard = none) (m x : Operand) (t : TypeId) (c : Bool) (hop : o.op = Op.lookup t m x c)
    {mv kv r : Value} (hm : a.eval m = mv) (hx : a.eval x = kv) (hr : ∀ w, C w → (Instr.lookup t mv kv c).run Tryz.prog w = .ok r w) (h : wpQuiet Tryz.prog ops C Q rest (a.put o.dst r)) : wpQuiet Tryz.prog ops C Q (o :: rest) a := by
  unfold wpQuiet
  rw [if_pos (by unfold Region.wanted; rw [hg])]
  refine ⟨r, fun w hw => ?_, h⟩
  unfold Oper.quietAt
  simp only [execOp, hop, hm, hx, Sem.run_bind, hr w hw, Result.andThen_ok, Sem.run_pure]
  exact ⟨rfl, rfl⟩

/-- Is the token a font's size? l: its text in small letters. -/
def isSz (kd : Int) (l : ByteArray) : Bool := kd == 26 || kd == 34 || (kd == 29 && Maps.has KW (.string l.data.toList))

set_option maxHeartbeats 1000000 in
set_option maxRecDepth 100000 in
theorem fontsize_any (t : TK) (l : ByteArray) (hl : t.kd = 29 → Low t.s l) (w : World) (hM : MapAt w 0 KW) :
    Calls Tryz.prog 18 #[.agg #[.pointer none, .string t.s, .int .i32 0, .int .u32 0, .int .u16 0, .int .u8 t.kd, .int .u8 t.ws]] w fun e w' => e = .returned (.bool (isSz t.kd l)) ∧ Below w.heap.size w w' := by
  obtain ⟨kd, s, ws⟩ := t
  dsimp only at hl ⊢
  by_cases h26 : kd = 26
  · subst h26
    go_enter Tryz.func18, Tryz.ntmps18
    go_wp2
    go_ret
    exact ⟨rfl, (Below.refl _ _).alloc (Nat.le_refl _) _⟩
  by_cases h34 : kd = 34
  · subst h34
    go_enter Tryz.func18, Tryz.ntmps18
    go_wp2
    go_ret
    exact ⟨rfl, (Below.refl _ _).alloc (Nat.le_refl _) _⟩
  by_cases h29 : kd = 29
  · subst h29
    have hL := hl rfl
    obtain ⟨b, v, g0, g1, _, _⟩ := hM.look l (by have := hL.size; unfold maxLen; omega)
    have hw := fun W => low_any hL W
    obtain ⟨r, er⟩ : ∃ r, r = Maps.has KW (.string l.data.toList) := ⟨_, rfl⟩
    have hr : isSz 29 l = r := by unfold isSz; rw [← er]; rfl
    rw [hr]
    rw [← er] at g1
    have HW := Lib.hid hw
    have HG := Lib.hid g1
    clear hw g1 er hr hL hl h26 h34
    go_enter Tryz.func18, Tryz.ntmps18
    go_wp2_with fail
    obtain ⟨W2, eW⟩ : ∃ W2, W2 = w.alloc (.cells #[.pointer none, .string s, .int .i32 0, .int .u32 0, .int .u16 0, .int .u8 29, .int .u8 ws] 31) := ⟨_, rfl⟩
    have c1 : W2.cell? ⟨w.heap.size, 1, none⟩ = some (.string s) := by rw [eW]; simp [go_sem]
    have hB : Below w.heap.size w W2 := by rw [eW]; exact (Below.refl _ _).alloc (Nat.le_refl _) _
    have g2 := cell_later hB g0
    rw [← eW]
    clear eW
    have HB := Lib.hid hB
    clear hB hM g0
    have r0 := fun d os => cell_regrown g2 d os
    have r1 := fun d os => cell_regrown c1 d os
    clear g2 c1
    refine wp_region_quiet_below (by kernel_rfl) (by kernel_rfl) ?_
    repeat (first
      | (refine quiet_lookup rfl _ _ _ true rfl rfl rfl (fun w' hw' => by obtain ⟨⟨d, os⟩, rfl⟩ := hw'; exact HG.out _ (HB.out.trans ((below_regrown W2 d os).mono HB.out.size))) ?_)
      | (quiet_step (first | (go_at_call 19; exact Calls.regrown_of (HW.out _)))))
    refine wpQuiet_nil ?_
    intro _ hw'
    obtain ⟨⟨dq, osq⟩, hw''⟩ := hw'
    subst hw''
    have hB5 := HB.out.trans ((below_regrown W2 dq osq).mono HB.out.size)
    generalize grow (redrawn W2 dq) osq = W5 at hB5 ⊢
    have HB5 := Lib.hid hB5
    clear hB5 r0 r1
    go_wp2_with fail
    go_ret
    exact ⟨rfl, HB5.out⟩
  · have hr : isSz kd l = false := by
      unfold isSz
      simp [h26, h34, h29]
    rw [hr]
    have e1 : (kd == 26) = false := by simpa using h26
    have e2 : (kd == 34) = false := by simpa using h34
    have e3 : (kd == 29) = false := by simpa using h29
    clear hl hr
    go_enter Tryz.func18, Tryz.ntmps18
    go_wp2
    go_ret
    exact ⟨rfl, (Below.refl _ _).alloc (Nat.le_refl _) _⟩
end Go.Proofs.YtoeahdefgblmoaaGreatDoor
