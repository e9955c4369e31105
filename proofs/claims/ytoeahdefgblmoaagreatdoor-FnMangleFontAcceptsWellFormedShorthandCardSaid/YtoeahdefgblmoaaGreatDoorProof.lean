/-
  The law FnMangleFontAcceptsWellFormedShorthand: mangleFont returns exactly what the statement says, for every shorthand of its vocabulary. Its conditions: those of the card.
-/
import Derived.Test.YtoeahdefgblmoaaGreatDoorTie
import Derived.Test.YtoeahdefgblmoaaGreatDoorCards
import Derived.Test.YtoeahdefgblmoaaGreatDoorP
import Derived.ProofKit
import Derived.OpenShut
import Derived.ShutString
import Derived.ChangeOld
import Derived.Below
import Derived.SliceStrings
import Derived.Lay
import Derived.LaidOnce
import Derived.Lib.LaidU8
import Derived.SevenTiedAt
import Derived.SizedLaws
import Derived.Test.YtoeahdefgblmoaaGreatDoorW
import Derived.OpenVars
namespace Go.Proofs.YtoeahdefgblmoaaGreatDoor.fnMangleFontAcceptsWellFormedShorthandDone
open Go.ChangeShapes Go.WideShapes Go.ChangeAt Go.RowKit
open Go.ChangeMaps (open_string shut_string)

theorem own : ownKnob Tryz.prog.godebug = none := by kernel_rfl
theorem laidOut : laidOutB Tryz.prog = true := by kernel_rfl

theorem trodVars_tail {H : Type} {enc : TypeId × Value → H} {P : Program} {w : World} {spare : Nat → Bool} {n : String} {ns : List String} {d : DataW H} {ds : List (DataW H)} {ps : List MemPlace} (h : DataW.TrodVars enc P w spare (n :: ns) (d :: ds) ps) : ∃ q, DataW.TrodVars enc P w spare ns ds q := by
  obtain ⟨_, _, _, _, _, q, _, _, _, _, hs, _⟩ := h
  exact ⟨q, hs⟩

set_option maxRecDepth 100000 in
set_option maxHeartbeats 1000000 in
theorem lifted (os : Os) (started : os.Started) (H : Type) (enc : TypeId × Value → H) :
    ReturnsInHanded {} Tryz.checked os 4 .any (fun w args => (Rows.fnMangleFontAcceptsWellFormedShorthandSpec.pre enc Tryz.prog Tryz.f4 [] false w args ∧ laidMetH Tryz.prog Rows.fnMangleFontAcceptsWellFormedShorthandRow.laid w) ∧ sizedMet enc Tryz.prog Tryz.f4 (OpenSpec.ofChange Rows.fnMangleFontAcceptsWellFormedShorthandSpec) false w args)
      (Rows.fnMangleFontAcceptsWellFormedShorthandSpec.post enc Tryz.prog Tryz.f4 false true false false) := by
  refine returnsInHanded_of_change_and (C := Tryz.checked) (X := fun w _ => laidMetH Tryz.prog Rows.fnMangleFontAcceptsWellFormedShorthandRow.laid w) (fun _ _ _ hh h => h.of_heap hh) own started (by kernel_rfl) Tryz.func4
    (ChangeSpec.witness_shaped (enc := enc) (C := Tryz.checked) (os := os) (X := fun w _ => laidMetH Tryz.prog Rows.fnMangleFontAcceptsWellFormedShorthandRow.laid w) false (laidW os) #[.slice none 0 0, .int .u8 0, .bool false, .int .u8 0, .slice none 0 0, .slice none 0 0, .bool false] 8 (laidW_os os)
      (World.shaped_of_ZipB (by kernel_rfl) (by kernel_rfl)) (by kernel_rfl) (by kernel_rfl) (by kernel_rfl)
      (by rw [MakeChecks.laidMetH_plain _ _ _ (by kernel_rfl)]; exact laid_met os _)) ?_
  intro W base args ds gs before hval0 hW _ _ hL _
  have hval : ∀ (j : Nat) t v, Tryz.f4.params[j]? = some t → args[j]? = some v → Value.okWide Tryz.prog W .any base t v := hval0
  have hW' := hW
  obtain ⟨p, q, hA0, hV, rfl, hfz, hnd⟩ := hW
  rw [MakeChecks.laidMetH_plain _ _ _ (by kernel_rfl)] at hL
  have hA : DataW.TrodAll enc Tryz.prog W 0 (fun _ => true) true Tryz.f4.params.toList args.toList ds p := hA0
  rw [Tryz.params4] at hA hval
  obtain ⟨v0, vs0, d0, ds0, p0, q0, hargs, rfl, rfl, h0, r0⟩ := trodAll_cons hA
  obtain ⟨v1, vs1, d1, ds1, p1, q1, rfl, rfl, rfl, h1, r1⟩ := trodAll_cons r0
  obtain ⟨v2, vs2, d2, ds2, p2, q2, rfl, rfl, rfl, h2, r2⟩ := trodAll_cons r1
  obtain ⟨v3, vs3, d3, ds3, p3, q3, rfl, rfl, rfl, h3, r3⟩ := trodAll_cons r2
  obtain ⟨v4, vs4, d4, ds4, p4, q4, rfl, rfl, rfl, h4, r4⟩ := trodAll_cons r3
  obtain ⟨v5, vs5, d5, ds5, p5, q5, rfl, rfl, rfl, h5, r5⟩ := trodAll_cons r4
  obtain ⟨v6, vs6, d6, ds6, p6, q6, rfl, rfl, rfl, h6, r6⟩ := trodAll_cons r5
  obtain ⟨rfl, rfl, rfl⟩ := trodAll_nil r6
  obtain rfl : args = #[v0, v1, v2, v3, v4, v5, v6] := by cases args; simp_all
  have hV' := hV
  obtain ⟨g0, gs0, rfl⟩ : ∃ g l, gs = g :: l := by
    rcases gs with _ | ⟨g, l⟩
    · exact (hV' : False).elim
    · exact ⟨g, l, rfl⟩
  obtain ⟨_, hV'⟩ := trodVars_tail hV'
  obtain ⟨g1, gs1, rfl⟩ : ∃ g l, gs0 = g :: l := by
    rcases gs0 with _ | ⟨g, l⟩
    · exact (hV' : False).elim
    · exact ⟨g, l, rfl⟩
  obtain ⟨_, hV'⟩ := trodVars_tail hV'
  obtain ⟨g2, gs2, rfl⟩ : ∃ g l, gs1 = g :: l := by
    rcases gs1 with _ | ⟨g, l⟩
    · exact (hV' : False).elim
    · exact ⟨g, l, rfl⟩
  obtain ⟨_, hV'⟩ := trodVars_tail hV'
  obtain rfl : gs2 = [] := (trodVars_none hV').1
  have k0 := h0
  have lt0 : ∀ x ∈ p0, x.block < W.heap.size := by obtain ⟨m, hm⟩ := k0; exact DataW.trod_lt m _ _ _ hm
  obtain ⟨a0, len0, cap0, rfl⟩ := okWide_slice Tryz.underlying36 (hval 0 36 v0 rfl rfl)
  obtain ⟨z0, e0, w0, l0⟩ : ∃ zs : List Int, len0 = zs.length ∧ U8s W a0 zs ∧ zs.length ≤ 9223372036854775807 := by
    obtain ⟨fuel, hf⟩ := h0
    rcases open_ints Tryz.underlying36 Tryz.underlying5 (by kernel_rfl) hf with ⟨hcs, _⟩ | ⟨x, l, c, zs, hcs, _, hl, hm, hz, _, hcell, hwz⟩
    · simp [Value.cells] at hcs
      obtain ⟨rfl, rfl, rfl⟩ := hcs
      exact ⟨[], rfl, (fun i h => absurd h (Nat.not_lt_zero _)), Nat.zero_le _⟩
    · simp [Value.cells] at hcs
      obtain ⟨rfl, rfl, rfl⟩ := hcs
      have hz' : zs.length = cap0 := by simpa using hz
      refine ⟨zs.take len0, by rw [List.length_take]; omega, fun i hi => ?_, by rw [List.length_take]; exact Nat.le_trans (Nat.min_le_left _ _) (Nat.le_trans hl hm)⟩
      rw [List.length_take] at hi
      obtain ⟨b, off, spot⟩ := x
      have h0' := hcell 0 (by omega)
      have hspot : spot = none := by simpa [Addr.add] using World.cell?_spot h0'
      subst hspot
      have ez : (zs.take len0).getD i 0 = zs.getD i 0 := by
        simp [List.getD_eq_getElem?_getD, show i < len0 by omega]
      rw [ez]
      have hr := range_u8 hwz i
      rw [← List.getD_eq_getElem?_getD] at hr
      refine ⟨b, off, rfl, ?_, hr.1, hr.2⟩
      have hi' := hcell i (by omega)
      rw [show (⟨b, off + i, none⟩ : Addr) = (⟨b, off, none⟩ : Addr).add i by unfold Addr.add; split <;> simp_all, hi']
  subst e0
  have k1 := h1
  have lt1 : ∀ x ∈ p1, x.block < W.heap.size := by obtain ⟨m, hm⟩ := k1; exact DataW.trod_lt m _ _ _ hm
  obtain ⟨x1, rfl, _, _, w1⟩ := open_int Tryz.underlying5 (hval 1 5 v1 rfl rfl) h1
  have k2 := h2
  have lt2 : ∀ x ∈ p2, x.block < W.heap.size := by obtain ⟨m, hm⟩ := k2; exact DataW.trod_lt m _ _ _ hm
  obtain ⟨b2, rfl, _, _⟩ := open_bool Tryz.underlying4 (hval 2 4 v2 rfl rfl) h2
  have k3 := h3
  have lt3 : ∀ x ∈ p3, x.block < W.heap.size := by obtain ⟨m, hm⟩ := k3; exact DataW.trod_lt m _ _ _ hm
  obtain ⟨x3, rfl, _, _, w3⟩ := open_int Tryz.underlying5 (hval 3 5 v3 rfl rfl) h3
  have k4 := h4
  have lt4 : ∀ x ∈ p4, x.block < W.heap.size := by obtain ⟨m, hm⟩ := k4; exact DataW.trod_lt m _ _ _ hm
  obtain ⟨a4, len4, cap4, rfl⟩ := okWide_slice Tryz.underlying36 (hval 4 36 v4 rfl rfl)
  obtain ⟨z4, e4, w4, l4⟩ : ∃ zs : List Int, len4 = zs.length ∧ U8s W a4 zs ∧ zs.length ≤ 9223372036854775807 := by
    obtain ⟨fuel, hf⟩ := h4
    rcases open_ints Tryz.underlying36 Tryz.underlying5 (by kernel_rfl) hf with ⟨hcs, _⟩ | ⟨x, l, c, zs, hcs, _, hl, hm, hz, _, hcell, hwz⟩
    · simp [Value.cells] at hcs
      obtain ⟨rfl, rfl, rfl⟩ := hcs
      exact ⟨[], rfl, (fun i h => absurd h (Nat.not_lt_zero _)), Nat.zero_le _⟩
    · simp [Value.cells] at hcs
      obtain ⟨rfl, rfl, rfl⟩ := hcs
      have hz' : zs.length = cap4 := by simpa using hz
      refine ⟨zs.take len4, by rw [List.length_take]; omega, fun i hi => ?_, by rw [List.length_take]; exact Nat.le_trans (Nat.min_le_left _ _) (Nat.le_trans hl hm)⟩
      rw [List.length_take] at hi
      obtain ⟨b, off, spot⟩ := x
      have h0' := hcell 0 (by omega)
      have hspot : spot = none := by simpa [Addr.add] using World.cell?_spot h0'
      subst hspot
      have ez : (zs.take len4).getD i 0 = zs.getD i 0 := by
        simp [List.getD_eq_getElem?_getD, show i < len4 by omega]
      rw [ez]
      have hr := range_u8 hwz i
      rw [← List.getD_eq_getElem?_getD] at hr
      refine ⟨b, off, rfl, ?_, hr.1, hr.2⟩
      have hi' := hcell i (by omega)
      rw [show (⟨b, off + i, none⟩ : Addr) = (⟨b, off, none⟩ : Addr).add i by unfold Addr.add; split <;> simp_all, hi']
  subst e4
  have k5 := h5
  have lt5 : ∀ x ∈ p5, x.block < W.heap.size := by obtain ⟨m, hm⟩ := k5; exact DataW.trod_lt m _ _ _ hm
  obtain ⟨a5, len5, cap5, rfl⟩ := okWide_slice Tryz.underlying36 (hval 5 36 v5 rfl rfl)
  obtain ⟨z5, e5, w5, l5⟩ : ∃ zs : List Int, len5 = zs.length ∧ U8s W a5 zs ∧ zs.length ≤ 9223372036854775807 := by
    obtain ⟨fuel, hf⟩ := h5
    rcases open_ints Tryz.underlying36 Tryz.underlying5 (by kernel_rfl) hf with ⟨hcs, _⟩ | ⟨x, l, c, zs, hcs, _, hl, hm, hz, _, hcell, hwz⟩
    · simp [Value.cells] at hcs
      obtain ⟨rfl, rfl, rfl⟩ := hcs
      exact ⟨[], rfl, (fun i h => absurd h (Nat.not_lt_zero _)), Nat.zero_le _⟩
    · simp [Value.cells] at hcs
      obtain ⟨rfl, rfl, rfl⟩ := hcs
      have hz' : zs.length = cap5 := by simpa using hz
      refine ⟨zs.take len5, by rw [List.length_take]; omega, fun i hi => ?_, by rw [List.length_take]; exact Nat.le_trans (Nat.min_le_left _ _) (Nat.le_trans hl hm)⟩
      rw [List.length_take] at hi
      obtain ⟨b, off, spot⟩ := x
      have h0' := hcell 0 (by omega)
      have hspot : spot = none := by simpa [Addr.add] using World.cell?_spot h0'
      subst hspot
      have ez : (zs.take len5).getD i 0 = zs.getD i 0 := by
        simp [List.getD_eq_getElem?_getD, show i < len5 by omega]
      rw [ez]
      have hr := range_u8 hwz i
      rw [← List.getD_eq_getElem?_getD] at hr
      refine ⟨b, off, rfl, ?_, hr.1, hr.2⟩
      have hi' := hcell i (by omega)
      rw [show (⟨b, off + i, none⟩ : Addr) = (⟨b, off, none⟩ : Addr).add i by unfold Addr.add; split <;> simp_all, hi']
  subst e5
  have k6 := h6
  have lt6 : ∀ x ∈ p6, x.block < W.heap.size := by obtain ⟨m, hm⟩ := k6; exact DataW.trod_lt m _ _ _ hm
  obtain ⟨b6, rfl, _, _⟩ := open_bool Tryz.underlying4 (hval 6 4 v6 rfl rfl) h6
  clear hA0 hval0 hval
  refine (fnMangleFontAcceptsWellFormedShorthand_walk a0 cap0 z0 x1 b2 x3 a4 cap4 z4 a5 cap5 z5 b6 W w0 l0 w1 w3 w4 l4 w5 l5 hL).mono fun e W' ⟨he, bel⟩ => ?_
  subst he
  exact ⟨_, rfl, _, _, _, [], _, _, hW', trodAll_mk1 (shut_bool Tryz.underlying4 _), (trodAll_cons_mk (Below.trod laidOut (by kernel_rfl) (of_decide_eq_true (by kernel_rfl)) k0 bel lt0) (trodAll_cons_mk (Below.trod laidOut (by kernel_rfl) (of_decide_eq_true (by kernel_rfl)) k1 bel lt1) (trodAll_cons_mk (Below.trod laidOut (by kernel_rfl) (of_decide_eq_true (by kernel_rfl)) k2 bel lt2) (trodAll_cons_mk (Below.trod laidOut (by kernel_rfl) (of_decide_eq_true (by kernel_rfl)) k3 bel lt3) (trodAll_cons_mk (Below.trod laidOut (by kernel_rfl) (of_decide_eq_true (by kernel_rfl)) k4 bel lt4) (trodAll_cons_mk (Below.trod laidOut (by kernel_rfl) (of_decide_eq_true (by kernel_rfl)) k5 bel lt5) (trodAll_cons_mk (Below.trod laidOut (by kernel_rfl) (of_decide_eq_true (by kernel_rfl)) k6 bel lt6) trodAll_mk0))))))), Below.trodVars laidOut bel (by kernel_rfl) hV, bel.frame _, fun h => by cases h⟩

theorem holds : Rows.FnMangleFontAcceptsWellFormedShorthandSaid :=
  OpenClaim.holds_of_wide 4 Tryz.f4 rfl rfl rfl rfl rfl rfl rfl ⟨rfl, rfl, rfl, rfl, rfl⟩ rfl rfl rfl rfl rfl (by kernel_rfl) Tryz.func4 (by kernel_rfl)
    (of_decide_eq_true (by kernel_rfl)) (by unfold Func.isWrapper; first | (rw [if_pos (by decide +kernel)]; kernel_rfl) | (rw [if_neg (by decide +kernel)]; exact ⟨rfl, rfl⟩))
    (fun os started H enc _ => lifted os started H enc)

/-- The card. -/
theorem proved : Rows.FnMangleFontAcceptsWellFormedShorthandCardSaid :=
  Claim7.holds_tied_plain_at .later [] [.data, .data, .widerDeep, .widerDeep, .data, .data, .data, .data, .data, .data, .sentinel, .sentinel, .mapped, .mapped, .mappedDeep, .pinned, .pinned, .pinned, .pinned] true (true, "7cef69c688616a13e16f255e3e186e0b8832a6f112c8e67bf1b39d3373934064") true holds (fun _ h => by cases h) (by kernel_rfl) (fun _ h => by cases h) fnMangleFontAcceptsWellFormedShorthand_row_tie rfl ⟨rfl, rfl⟩ (by kernel_rfl) rfl
    (fun f fn hf hfn => by
      obtain rfl : f = 4 := Option.some.inj ((show Tryz.prog.funcNamed "github.com/evanw/esbuild/n011_200.FnMangleFontAcceptsWellFormedShorthand" = some 4 by kernel_rfl).symm.trans hf) |>.symm
      obtain rfl : fn = Tryz.f4 := (Option.some.inj (Tryz.func4.symm.trans hfn)).symm
      exact ⟨by kernel_rfl, fun j t ht => by
        rw [Tryz.params4] at ht
        have hm : t ∈ [36, 5, 4, 5, 36, 36, 4] := by simpa using Array.mem_of_getElem? ht
        have hall : ([36, 5, 4, 5, 36, 36, 4].all fun u => !Tryz.prog.wantsStandIn u) = true := by kernel_rfl
        exact (show Tryz.prog.wantsStandIn t = false by simpa using List.all_eq_true.1 hall t hm)⟩)
    (by kernel_rfl)

#print axioms proved
end Go.Proofs.YtoeahdefgblmoaaGreatDoor.fnMangleFontAcceptsWellFormedShorthandDone
