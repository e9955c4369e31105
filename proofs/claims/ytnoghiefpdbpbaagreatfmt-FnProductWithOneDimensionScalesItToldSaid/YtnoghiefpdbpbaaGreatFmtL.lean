/-
  The walk of the law FnProductWithOneDimensionScalesIt.
-/
import Derived.Test.YtnoghiefpdbpbaaGreatFmtK
import Derived.Deep.RegionWith
import Derived.Deep.DeepCutAuto
namespace Go.Proofs.YtnoghiefpdbpbaaGreatFmt
open Go.RowKit Go.Deep

theorem mk_succ (t e : TypeId) (z : Value) (b : Nat) (hu : Tryz.prog.underlying t = some (.slice e)) (hi : (Tryz.prog.info? e).map (fun i => (i.zero, i.size, i.bytes)) = some (some z, 1, b)) (hc : z.cells = #[z]) (n : Nat) (h1 : b * (n + 1) ≤ 281474976710656) (h2 : n + 1 ≤ 9223372036854775807) (V : World) :
    (Instr.makeSlice t (.int .i64 ((n : Int) + 1)) (.int .i64 ((n : Int) + 1))).run Tryz.prog V = .ok (.slice (some ⟨V.heap.size, 0, none⟩) (n + 1) (n + 1)) (V.alloc (.cells (madeCells #[z] (n + 1)) e)) := by
  have h := run_make_row' (P := Tryz.prog) t e z b hu hi hc .i64 .i64 (n + 1) h1 h2 V
  push_cast at h
  exact h

/-- What the third part of the walk needs: the product is scaled. -/
def Rest6 (u : ByteArray) (xs : List Nat) (fs : List Bool) (d p m : Nat) : Prop := ∀ (V : World) (U F B : Nat), V.rowIs U 9 (m + 1) (fun i => .string (insU u p i)) → V.rowIs F 33 (m + 1) (fun i => fl (insX xs d p i)) → V.rowIs B 4 (m + 1) (fun i => .bool (insB fs p i)) →
    Calls Tryz.prog 17 #[.slice (some ⟨U, 0, none⟩) (m + 1) (m + 1), .slice (some ⟨F, 0, none⟩) (m + 1) (m + 1), .slice (some ⟨B, 0, none⟩) (m + 1) (m + 1)] V (Scaled u xs fs d m V)

set_option maxHeartbeats 4000000 in
set_option maxRecDepth 100000 in
/-- The law's walk, over lengths that are letters. -/
theorem law6 (a0 a1 : Option Addr) (cap0 cap1 n m : Nat) (pos : Int) (u : ByteArray) (d : Nat) (xs : List Nat) (fs : List Bool) (W : World) (hxl : xs.length = n) (hfl : fs.length = m)
    (h20 : Calls Tryz.prog 20 #[.slice a0 n cap0, .slice a1 m cap1, .int .i64 pos, .string u, .float .f64 d] W (SomeBool (fun b => b = true → n ≤ 1048576 ∧ m ≤ 1048576 ∧ u.size ≤ 1048576) W))
    (h8 : n ≤ 1048576 → m ≤ 1048576 → Calls Tryz.prog 8 #[.slice none 0 0, .slice a0 n cap0, .slice a1 m cap1] W fun e w' => e = .returned (.int .i64 (8 * n + m)) ∧ W = w')
    (h11 : n ≤ 1048576 → Calls Tryz.prog 11 #[.slice a0 n cap0] W (Cln fl 0 xs n W))
    (h12 : m ≤ 1048576 → ∀ V, Below W.heap.size W V → Calls Tryz.prog 12 #[.slice a1 m cap1] V (Cln Value.bool false fs m V))
    (h17 : ∀ p : Nat, u.toList.isEmpty = false → m ≤ 1048576 → p ≤ m → pos = (p : Int) → Rest6 u xs fs d p m) :
    Calls Tryz.prog 6 #[.slice a0 n cap0, .slice a1 m cap1, .int .i64 pos, .string u, .float .f64 d] W fun e w' => e = .returned (.bool true) ∧ Below W.heap.size W w' := by
  have H20 := Lib.hid h20
  have H8 := Lib.hid h8
  have H11 := Lib.hid h11
  have H12 := Lib.hid h12
  have H17 := Lib.hid h17
  have HL := Lib.hid (And.intro hxl hfl)
  clear h20 h8 h11 h12 h17 hxl hfl
  go_enter Tryz.func6, Tryz.ntmps6
  go_wp2_with fail
  refine H20.out.mono ?_
  rintro e w' ⟨b, hb, rfl, rfl⟩
  cases b
  · go_wp2_with fail
    go_ret
    exact ⟨rfl, Below.refl _ _⟩
  obtain ⟨lx, lf, lu⟩ := hb rfl
  clear hb
  have lu' : ¬ (1048576 : Int) < (u.size : Int) := by omega
  go_wp2_with fail
  refine (H8.out lx lf).mono ?_
  rintro e w' ⟨rfl, rfl⟩
  by_cases hbig : (1048576 : Int) < 8 * (n : Int) + (m : Int) + (u.size : Int)
  · go_wp2_with fail
    go_ret
    exact ⟨rfl, Below.refl _ _⟩
  by_cases hne : m = n
  rotate_left
  · have hne' : ((m : Int) != (n : Int)) = true := by simp; omega
    go_wp2_with fail
    go_ret
    exact ⟨rfl, Below.refl _ _⟩
  subst hne
  cases hu0 : u.toList.isEmpty
  rotate_left
  · go_wp2_with fail
    go_ret
    exact ⟨rfl, Below.refl _ _⟩
  by_cases hp0 : pos < 0
  · go_wp2_with fail
    go_ret
    exact ⟨rfl, Below.refl _ _⟩
  by_cases hp1 : (m : Int) < pos
  · go_wp2_with fail
    go_ret
    exact ⟨rfl, Below.refl _ _⟩
  obtain ⟨p, rfl⟩ : ∃ p : Nat, pos = (p : Int) := ⟨pos.toNat, by omega⟩
  have H17 := Lib.hid (H17.out p hu0 lf (by omega) rfl)
  go_wp2_with fail
  refine (H11.out lx).mono ?_
  rintro e w1 ⟨b0, d0, rfl, hX1, hB1⟩
  have HX1 := Lib.hid hX1
  have HB1 := Lib.hid hB1
  clear hX1 hB1
  go_wp2_with fail
  refine (H12.out lf _ HB1.out).mono ?_
  rintro e w2 ⟨b1, d1, rfl, hF2, hB2⟩
  have HF2 := Lib.hid hF2
  have HX2 := Lib.hid (HX1.out.below hB2)
  have HB2 := Lib.hid (HB1.out.trans (hB2.mono HB1.out.size))
  clear hF2 hB2 HX1 HB1
  have hm0 := mk_succ 22 9 (.string ⟨#[]⟩) 16 Tryz.underlying22 info9 rfl m (by omega) (by omega)
  have hm1 := mk_succ 23 33 (.float .f64 0) 8 Tryz.underlying23 info33 rfl m (by omega) (by omega)
  have hm2 := mk_succ 24 4 (.bool false) 1 Tryz.underlying24 info4 rfl m (by omega) (by omega)
  clear H20 H8 H11 H12
  go_wp2_with fail
  obtain ⟨U, eU⟩ : ∃ U, U = w2.heap.size := ⟨_, rfl⟩
  obtain ⟨w3, ew3⟩ : ∃ w3, w3 = (((w2.alloc (.cells (madeCells #[.string ⟨#[]⟩] (m + 1)) 9)).alloc (.cells (madeCells #[.float .f64 0] (m + 1)) 33)).alloc (.cells (madeCells #[.bool false] (m + 1)) 4)) := ⟨_, rfl⟩
  have hz3 : w3.heap.size = w2.heap.size + 3 := by rw [ew3, World.size_alloc, World.size_alloc, World.size_alloc]
  have hb23 : Below w2.heap.size w2 w3 := by rw [ew3]; exact (((Below.refl _ _).alloc (Nat.le_refl _) _).alloc (by rw [World.size_alloc]; omega) _).alloc (by rw [World.size_alloc, World.size_alloc]; omega) _
  have rU : w3.rowIs U 9 (m + 1) (fun _ => .string ⟨#[]⟩) := by
    rw [ew3, eU]
    exact ((World.rowIs_made w2 (.string ⟨#[]⟩) (m + 1) 9).alloc _).alloc _
  have rF : w3.rowIs (U + 1) 33 (m + 1) (fun _ => fl 0) := by
    have h := (World.rowIs_made (w2.alloc (.cells (madeCells #[.string ⟨#[]⟩] (m + 1)) 9)) (.float .f64 0) (m + 1) 33).alloc (.cells (madeCells #[.bool false] (m + 1)) 4)
    rw [World.size_alloc, ← eU, ← ew3] at h
    exact h
  have rB : w3.rowIs (U + 1 + 1) 4 (m + 1) (fun _ => .bool false) := by
    have h := World.rowIs_made ((w2.alloc (.cells (madeCells #[.string ⟨#[]⟩] (m + 1)) 9)).alloc (.cells (madeCells #[.float .f64 0] (m + 1)) 33)) (.bool false) (m + 1) 4
    rw [World.size_alloc, World.size_alloc, ← eU, ← ew3] at h
    exact h
  have RU := Lib.hid rU
  have RF := Lib.hid rF
  have RB := Lib.hid rB
  have HB23 := Lib.hid hb23
  have HU := Lib.hid eU
  rw [← eU, ← ew3]
  clear rU rF rB ew3 eU hb23 hm0 hm1 hm2 hz3
  go_loopw [15, 16] (fun j i wr => ∃ (k jn : Nat), k ≤ m + 1 ∧ (k ≤ p → jn = k) ∧ (p < k → jn + 1 = k) ∧ i = .int .i64 k ∧ j = .int .i64 jn ∧ Hid (wr.rowIs U 9 (m + 1) (fun i => .string (if i < k then insU u p i else ⟨#[]⟩))) ∧
    Hid (wr.rowIs (U + 1) 33 (m + 1) (fun i => fl (if i < k then insX xs d p i else 0))) ∧ Hid (wr.rowIs (U + 1 + 1) 4 (m + 1) (fun i => .bool (if i < k then insB fs p i else false))) ∧ Hid (Below w2.heap.size w2 wr)) (fun _ i _ => m + 1 - (intOf i).toNat)
  case atStart => exact ⟨0, 0, by omega, fun _ => rfl, fun h => by omega, rfl, rfl, RU.out.congr (fun i _ => by rw [if_neg (by omega)]), RF.out.congr (fun i _ => by rw [if_neg (by omega)]), RB.out.congr (fun i _ => by rw [if_neg (by omega)]), HB23.out⟩
  case round =>
    obtain ⟨k, jn, hk, hj1, hj2, rfl, rfl, rU, rF, rB, hb⟩ := hrel
    by_cases hlt : k < m + 1
    · have cF : wr.cell? ⟨U + 1, k, none⟩ = some (fl 0) := by rw [rF.out.cell hlt, if_neg (by omega)]
      have zF : wr.frozen? ⟨U + 1, k, none⟩ = false := rF.out.frozen _
      have hkm : (k : Int) < (m : Int) + 1 := by omega
      by_cases hkp : k = p
      · subst hkp
        have cU : wr.cell? ⟨U, k, none⟩ = some (.string ⟨#[]⟩) := by rw [rU.out.cell hlt, if_neg (by omega)]
        have zU : wr.frozen? ⟨U, k, none⟩ = false := rU.out.frozen _
        go_wp2_with fail
        go_roundw
        case rel => exact ⟨k + 1, jn, by omega, fun h => by omega, fun _ => by rw [hj1 (Nat.le_refl _)], by go_num, rfl,
          (row_other (rU.out.set k (.string u)) (show U ≠ U + 1 by omega)).congr (fun j hj => by
            by_cases e : j = k
            · subst e; rw [if_pos rfl, if_pos (by omega)]; unfold insU; rw [if_pos rfl]
            · rw [if_neg e]
              by_cases h2 : j < k
              · rw [if_pos h2, if_pos (by omega)]
              · rw [if_neg h2, if_neg (by omega)]),
          ((row_other rF.out (show U + 1 ≠ U by omega)).set k (fl d)).congr (fun j hj => by
            by_cases e : j = k
            · subst e; rw [if_pos rfl, if_pos (by omega)]; unfold insX; rw [if_pos rfl]
            · rw [if_neg e]
              by_cases h2 : j < k
              · rw [if_pos h2, if_pos (by omega)]
              · rw [if_neg h2, if_neg (by omega)]),
          (row_other (row_other rB.out (show U + 1 + 1 ≠ U by omega)) (show U + 1 + 1 ≠ U + 1 by omega)).congr (fun j hj => by
            by_cases h2 : j < k
            · rw [if_pos h2, if_pos (by omega)]
            · rw [if_neg h2]
              by_cases e : j = k
              · subst e; rw [if_pos (by omega)]; unfold insB; rw [if_pos rfl]
              · rw [if_neg (by omega)]),
          (hb.out.setCell (by have := HU.out; show w2.heap.size ≤ U; omega) _).setCell (by have := HU.out; show w2.heap.size ≤ U + 1; omega) _⟩
        case measure => simp [intOf]; omega
      · have hjm : jn < m := by omega
        obtain ⟨bx, ox, e, hcx⟩ := (HX2.out.below hb.out) jn (by rw [HL.out.1]; exact hjm)
        subst e
        obtain ⟨bf, of, e, hcf⟩ := (HF2.out.below hb.out) jn (by rw [HL.out.2]; exact hjm)
        subst e
        obtain ⟨x, ex⟩ : ∃ x, x = xs.getD jn 0 := ⟨_, rfl⟩
        obtain ⟨f, ef⟩ : ∃ f, f = fs.getD jn false := ⟨_, rfl⟩
        rw [← ex] at hcx
        rw [← ef] at hcf
        have HE := Lib.hid (And.intro ex ef)
        clear ex ef
        have hbf : bf < U := by
          obtain ⟨b', o', e', h'⟩ := HF2.out jn (by rw [HL.out.2]; exact hjm)
          injection e' with e'
          injection e' with e1 e2
          subst e1
          have hl : bf < w2.heap.size := World.block_lt_of_cell? _ _ h'
          have := HU.out
          omega
        have hjmi : (jn : Int) < (m : Int) := by omega
        have hkne : ((k : Int) == (p : Int)) = false := by simp; omega
        have cB : wr.cell? ⟨U + 1 + 1, k, none⟩ = some (.bool false) := by rw [rB.out.cell hlt, if_neg (by omega)]
        have zB : wr.frozen? ⟨U + 1 + 1, k, none⟩ = false := rB.out.frozen _
        have hcf' : ∀ v, (wr.setCell ⟨U + 1, k, none⟩ v).cell? ⟨bf, of + jn, none⟩ = some (.bool f) := fun v => by rw [cell_set_other (by show bf ≠ U + 1; omega)]; exact hcf
        have cB' : ∀ v, (wr.setCell ⟨U + 1, k, none⟩ v).cell? ⟨U + 1 + 1, k, none⟩ = some (.bool false) := fun v => by rw [cell_set_other (by show U + 1 + 1 ≠ U + 1; omega)]; exact cB
        go_wp2_with fail
        go_roundw
        case rel => exact ⟨k + 1, jn + 1, by omega, fun h => by rw [hj1 (by omega)], fun h => by have := hj2 (by omega); omega, by go_num, by go_num,
          (row_other (row_other rU.out (show U ≠ U + 1 by omega)) (show U ≠ U + 1 + 1 by omega)).congr (fun j hj => by
            by_cases h2 : j < k
            · rw [if_pos h2, if_pos (by omega)]
            · rw [if_neg h2]
              by_cases e : j = k
              · subst e; rw [if_pos (by omega)]; unfold insU; rw [if_neg hkp]
              · rw [if_neg (by omega)]),
          (row_other (rF.out.set k (fl x)) (show U + 1 ≠ U + 1 + 1 by omega)).congr (fun j hj => by
            by_cases e : j = k
            · subst e; rw [if_pos rfl, if_pos (by omega), HE.out.1]; unfold insX; rw [if_neg hkp]
              by_cases h3 : j < p
              · rw [if_pos h3, hj1 (by omega)]
              · rw [if_neg h3]; have := hj2 (by omega); rw [show j - 1 = jn by omega]
            · rw [if_neg e]
              by_cases h2 : j < k
              · rw [if_pos h2, if_pos (by omega)]
              · rw [if_neg h2, if_neg (by omega)]),
          ((row_other rB.out (show U + 1 + 1 ≠ U + 1 by omega)).set k (.bool f)).congr (fun j hj => by
            by_cases e : j = k
            · subst e; rw [if_pos rfl, if_pos (by omega), HE.out.2]; unfold insB; rw [if_neg hkp]
              by_cases h3 : j < p
              · rw [if_pos h3, hj1 (by omega)]
              · rw [if_neg h3]; have := hj2 (by omega); rw [show j - 1 = jn by omega]
            · rw [if_neg e]
              by_cases h2 : j < k
              · rw [if_pos h2, if_pos (by omega)]
              · rw [if_neg h2, if_neg (by omega)]),
          (hb.out.setCell (by have := HU.out; show w2.heap.size ≤ U + 1; omega) _).setCell (by have := HU.out; show w2.heap.size ≤ U + 1 + 1; omega) _⟩
        case measure => simp [intOf]; omega
    · obtain rfl : k = m + 1 := by omega
      have hS := H17.out wr U (U + 1) (U + 1 + 1) (rU.out.congr (fun i hi => by rw [if_pos hi])) (rF.out.congr (fun i hi => by rw [if_pos hi])) (rB.out.congr (fun i hi => by rw [if_pos hi]))
      have HS := Lib.hid hS
      clear hS
      go_wp2_with fail
      refine HS.out.mono ?_
      rintro e w3 ⟨hb3, b3, b4, v, rfl, c0, c1, k1, k2⟩
      have HB4 := Lib.hid (hb.out.trans (hb3.mono hb.out.size))
      have HX4 := Lib.hid (HX2.out.below HB4.out)
      have HF4 := Lib.hid (HF2.out.below HB4.out)
      have HK := Lib.hid (And.intro k1 k2)
      have HBF := Lib.hid (HB2.out.trans (HB4.out.mono HB2.out.size))
      clear hb3 k1 k2 rU rF rB
      rcases Nat.eq_zero_or_pos m with hm0 | hm0
      · subst hm0
        have hsim := same_any v d (Or.inl (HK.out.1 rfl))
        go_wp2_with fail
        refine (hsim _).mono ?_
        rintro e w' ⟨rfl, rfl⟩
        go_wp2_with fail
        go_ret
        exact ⟨rfl, HBF.out⟩
      obtain ⟨P, W0, rfl, hP⟩ := HK.out.2 hm0
      have HP := Lib.hid hP
      clear hP HK
      obtain ⟨v, ev⟩ : ∃ v, v = fR .mul d P W0 := ⟨_, rfl⟩
      rw [← ev] at c1
      have HV := Lib.hid ev
      clear ev
      obtain ⟨B0, o0, rfl, x0⟩ := HX4.out 0 (by rw [HL.out.1]; exact hm0)
      obtain ⟨B1, o1, rfl, f0⟩ := HF4.out 0 (by rw [HL.out.2]; exact hm0)
      obtain ⟨x, ex⟩ : ∃ x, x = xs.getD 0 0 := ⟨_, rfl⟩
      obtain ⟨f, ef⟩ : ∃ f, f = fs.getD 0 false := ⟨_, rfl⟩
      rw [← ex, Nat.add_zero] at x0
      rw [← ef, Nat.add_zero] at f0
      have HE := Lib.hid (And.intro ex ef)
      clear ex ef
      have hp0 : (0 : Int) < (m : Int) := by omega
      go_upto_region 30 with fail
      go_cut [20] (fun s9 wx => (∃ W0, s9 = .float .f64 (fac x f W0)) ∧ Hid (Below w3.heap.size w3 wx))
      case first =>
        go_region_with (go_at_call 18; refine (factor_any _ _ _).mono ?_; rintro e w' ⟨rfl, rfl⟩)
        all_goals (go_wp2_with fail; go_meet; exact ⟨⟨_, rfl⟩, by first | exact below_drewN (Below.refl _ _) _ | exact below_drewN (Below.refl _ _).drew _⟩)
      case rest =>
      obtain ⟨⟨W1, rfl⟩, hb4⟩ := hcut
      have HX5 := Lib.hid (HX4.out.below hb4.out)
      have HF5 := Lib.hid (HF4.out.below hb4.out)
      have HB5 := Lib.hid (HBF.out.trans (hb4.out.mono HBF.out.size))
      have HC := Lib.hid (cell_later hb4.out c1)
      have hF0 := facts_one xs fs W1
      rw [← HE.out.1, ← HE.out.2] at hF0
      obtain ⟨v0, ev0⟩ : ∃ v0, v0 = fac x f W1 := ⟨_, rfl⟩
      rw [← ev0] at hF0 ⊢
      have HF0 := Lib.hid hF0
      clear x0 f0 HX4 HF4 HBF HE ev0 hF0 c0 c1
      obtain ⟨w4, ew4⟩ : ∃ w4, w4 = wc := ⟨_, rfl⟩
      subst ew4
      go_wp2_with fail
      go_loopw [20, 21] (fun p i wr => ∃ (k v : Nat), 1 ≤ k ∧ k ≤ m ∧ i = .int .i64 k ∧ p = .float .f64 v ∧ Hid (Facts xs fs k v) ∧ Hid (Below w4.heap.size w4 wr)) (fun _ i _ => m - (intOf i).toNat)
      case atStart => exact ⟨1, v0, Nat.le_refl _, by omega, rfl, rfl, HF0.out, Below.refl _ _⟩
      case round =>
        obtain ⟨k, v1, hk1, hkm, rfl, rfl, hFk, hb⟩ := hrel
        have HXr := Lib.hid (HX5.out.below hb.out)
        have HFr := Lib.hid (HF5.out.below hb.out)
        by_cases hlt : k < m
        · have xk := HXr.out.at (i := k) (by rw [HL.out.1]; exact hlt)
          have fk := HFr.out.at (i := k) (by rw [HL.out.2]; exact hlt)
          obtain ⟨x, ex⟩ : ∃ x, x = xs.getD k 0 := ⟨_, rfl⟩
          obtain ⟨f, ef⟩ : ∃ f, f = fs.getD k false := ⟨_, rfl⟩
          rw [← ex] at xk
          rw [← ef] at fk
          have HE := Lib.hid (And.intro ex ef)
          clear ex ef
          have hmul := fun (y : Nat) (W : World) => run_fop (P := Tryz.prog) (Or.inl rfl) 33 v1 y W
          have hklt : (k : Int) < (m : Int) := by omega
          go_wp2_with fail
          go_region_with (go_at_call 18; refine (factor_any _ _ _).mono ?_; rintro e w' ⟨rfl, rfl⟩)
          all_goals
            go_wp2_with fail
            go_roundw
            case rel => exact ⟨k + 1, _, by omega, by omega, by go_num, rfl, by rw [HE.out.1, HE.out.2]; exact facts_snoc hFk.out _ _, by first | exact below_drewN hb.out _ | exact below_drewN (below_drewN hb.out.drew _) _⟩
            case measure => simp [intOf]; omega
        · obtain rfl : k = m := by omega
          have c1 := cell_later hb.out HC.out
          have hmul := fun (W : World) => run_fop (P := Tryz.prog) (Or.inl rfl) 33 d v1 W
          have hsim := fun (W : World) => same_any v (fR .mul d v1 W) (by rw [HV.out]; exact sim_op (Or.inl rfl) (Sim.refl _) (HP.out v1 hFk.out) _ _)
          go_wp2_with fail
          refine (hsim _ _).mono ?_
          rintro e w' ⟨rfl, rfl⟩
          go_wp2_with fail
          go_ret
          exact ⟨rfl, below_drewN (HB5.out.trans (hb.out.mono HB5.out.size)) _⟩

/-- The walk of the law: it answers true. -/
theorem fnProductWithOneDimensionScalesIt_walk (a0 : Option Addr) (cap0 : Nat) (xs : List Nat) (a1 : Option Addr) (cap1 : Nat) (fs : List Bool) (pos : Int) (u : ByteArray) (d : Nat) (W : World) (h0 : Slc fl 0 W a0 xs) (l0 : xs.length ≤ 9223372036854775807)
    (h1 : Slc Value.bool false W a1 fs) (l1 : fs.length ≤ 9223372036854775807) (_ : (Lit.int .i64 pos).wf = true) (l3' : u.size ≤ maxLen) :
    Calls Tryz.prog 6 #[.slice a0 xs.length cap0, .slice a1 fs.length cap1, .int .i64 pos, .string u, .float .f64 d] W fun e w' => e = .returned (.bool true) ∧ Below W.heap.size W w' := by
  obtain ⟨n, en⟩ : ∃ n, n = xs.length := ⟨_, rfl⟩
  obtain ⟨m, em⟩ : ∃ m, m = fs.length := ⟨_, rfl⟩
  have l3 : u.size ≤ 9223372036854775807 := l3'
  have h20 := zz20_any a0 a1 n m cap0 cap1 pos u d W (by omega) (by omega) l3
  have h8 := fun h1 h2 => bytes_nil a0 a1 n m cap0 cap1 W h1 h2
  have h11 := fun (h : n ≤ 1048576) => clone_floats a0 cap0 xs W h0 (by omega)
  have h12 := fun (h : m ≤ 1048576) V (hb : Below W.heap.size W V) => clone_bools a1 cap1 fs V (h1.below hb) (by omega)
  rw [← en] at h11 ⊢
  rw [← em] at h12 ⊢
  refine law6 a0 a1 cap0 cap1 n m pos u d xs fs W en.symm em.symm h20 h8 (fun h => (h11 h).mono fun _ _ q => cln q en) (fun h V hb => (h12 h V hb).mono fun _ _ q => cln q em) (fun p hu hm hp _ V U F B k0 k1 k2 => ?_)
  exact simp_ins u (fun h => by rw [h, ByteArray.toList_eq] at hu; cases hu) xs fs d p m hm hp V U F B k0 k1 k2
end Go.Proofs.YtnoghiefpdbpbaaGreatFmt
