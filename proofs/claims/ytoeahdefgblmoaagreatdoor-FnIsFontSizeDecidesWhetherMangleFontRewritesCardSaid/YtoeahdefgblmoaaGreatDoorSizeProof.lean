/-
  The law FnIsFontSizeDecidesWhetherMangleFontRewrites: mangleFont on a token and serif gives the token and serif with a space before it exactly where isFontSize holds, else both as they were. Its conditions: those of the card.
-/
import Derived.Test.YtoeahdefgblmoaaGreatDoorTie
import Derived.Test.YtoeahdefgblmoaaGreatDoorCards
import Derived.Test.YtoeahdefgblmoaaGreatDoorQ2
import Derived.ProofKit
import Derived.OpenShut
import Derived.ShutString
import Derived.ChangeOld
import Derived.Below
import Derived.SliceStrings
import Derived.Lay
import Derived.LaidOnce
import Derived.Lib.LaidU8
import Derived.SevenTiedAt
import Derived.SizedLaws
import Derived.Test.YtoeahdefgblmoaaGreatDoorW2
import Derived.OpenVars
namespace Go.Proofs.YtoeahdefgblmoaaGreatDoor.fnIsFontSizeDecidesWhetherMangleFontRewritesDone
open Go.ChangeShapes Go.WideShapes Go.ChangeAt Go.RowKit
open Go.ChangeMaps (open_string shut_string)

theorem own : ownKnob Tryz.prog.godebug = none := by kernel_rfl
theorem laidOut : laidOutB Tryz.prog = true := by kernel_rfl

theorem trodVars_tail {H : Type} {enc : TypeId × Value → H} {P : Program} {w : World} {spare : Nat → Bool} {n : String} {ns : List String} {d : DataW H} {ds : List (DataW H)} {ps : List MemPlace} (h : DataW.TrodVars enc P w spare (n :: ns) (d :: ds) ps) : ∃ q, DataW.TrodVars enc P w spare ns ds q := by
  obtain ⟨_, _, _, _, _, q, _, _, _, _, hs, _⟩ := h
  exact ⟨q, hs⟩

set_option maxRecDepth 100000 in
set_option maxHeartbeats 1000000 in
theorem lifted (os : Os) (started : os.Started) (H : Type) (enc : TypeId × Value → H) :
    ReturnsInHanded {} Tryz.checked os 3 .any (fun w args => (Rows.fnIsFontSizeDecidesWhetherMangleFontRewritesSpec.pre enc Tryz.prog Tryz.f3 [] false w args ∧ laidMetH Tryz.prog Rows.fnIsFontSizeDecidesWhetherMangleFontRewritesRow.laid w) ∧ sizedMet enc Tryz.prog Tryz.f3 (OpenSpec.ofChange Rows.fnIsFontSizeDecidesWhetherMangleFontRewritesSpec) false w args)
      (Rows.fnIsFontSizeDecidesWhetherMangleFontRewritesSpec.post enc Tryz.prog Tryz.f3 false true false false) := by
  refine returnsInHanded_of_change_and (C := Tryz.checked) (X := fun w _ => laidMetH Tryz.prog Rows.fnIsFontSizeDecidesWhetherMangleFontRewritesRow.laid w) (fun _ _ _ hh h => h.of_heap hh) own started (by kernel_rfl) Tryz.func3
    (ChangeSpec.witness_shaped (enc := enc) (C := Tryz.checked) (os := os) (X := fun w _ => laidMetH Tryz.prog Rows.fnIsFontSizeDecidesWhetherMangleFontRewritesRow.laid w) false (laidW os) #[.int .u8 0, .string ⟨#[]⟩, .int .u8 0, .bool false] 8 (laidW_os os)
      (World.shaped_of_ZipB (by kernel_rfl) (by kernel_rfl)) (by kernel_rfl) (by kernel_rfl) (by kernel_rfl)
      (by rw [MakeChecks.laidMetH_plain _ _ _ (by kernel_rfl)]; exact laid_met os _)) ?_
  intro W base args ds gs before hval0 hW _ _ hL _
  have hval : ∀ (j : Nat) t v, Tryz.f3.params[j]? = some t → args[j]? = some v → Value.okWide Tryz.prog W .any base t v := hval0
  have hW' := hW
  obtain ⟨p, q, hA0, hV, rfl, hfz, hnd⟩ := hW
  rw [MakeChecks.laidMetH_plain _ _ _ (by kernel_rfl)] at hL
  have hA : DataW.TrodAll enc Tryz.prog W 0 (fun _ => true) true Tryz.f3.params.toList args.toList ds p := hA0
  rw [Tryz.params3] at hA hval
  obtain ⟨v0, vs0, d0, ds0, p0, q0, hargs, rfl, rfl, h0, r0⟩ := trodAll_cons hA
  obtain ⟨v1, vs1, d1, ds1, p1, q1, rfl, rfl, rfl, h1, r1⟩ := trodAll_cons r0
  obtain ⟨v2, vs2, d2, ds2, p2, q2, rfl, rfl, rfl, h2, r2⟩ := trodAll_cons r1
  obtain ⟨v3, vs3, d3, ds3, p3, q3, rfl, rfl, rfl, h3, r3⟩ := trodAll_cons r2
  obtain ⟨rfl, rfl, rfl⟩ := trodAll_nil r3
  obtain rfl : args = #[v0, v1, v2, v3] := by cases args; simp_all
  have hV' := hV
  obtain ⟨g0, gs0, rfl⟩ : ∃ g l, gs = g :: l := by
    rcases gs with _ | ⟨g, l⟩
    · exact (hV' : False).elim
    · exact ⟨g, l, rfl⟩
  obtain ⟨_, hV'⟩ := trodVars_tail hV'
  obtain ⟨g1, gs1, rfl⟩ : ∃ g l, gs0 = g :: l := by
    rcases gs0 with _ | ⟨g, l⟩
    · exact (hV' : False).elim
    · exact ⟨g, l, rfl⟩
  obtain ⟨_, hV'⟩ := trodVars_tail hV'
  obtain ⟨g2, gs2, rfl⟩ : ∃ g l, gs1 = g :: l := by
    rcases gs1 with _ | ⟨g, l⟩
    · exact (hV' : False).elim
    · exact ⟨g, l, rfl⟩
  obtain ⟨_, hV'⟩ := trodVars_tail hV'
  obtain rfl : gs2 = [] := (trodVars_none hV').1
  have k0 := h0
  have lt0 : ∀ x ∈ p0, x.block < W.heap.size := by obtain ⟨m, hm⟩ := k0; exact DataW.trod_lt m _ _ _ hm
  obtain ⟨x0, rfl, _, _, w0⟩ := open_int Tryz.underlying5 (hval 0 5 v0 rfl rfl) h0
  have k1 := h1
  have lt1 : ∀ x ∈ p1, x.block < W.heap.size := by obtain ⟨m, hm⟩ := k1; exact DataW.trod_lt m _ _ _ hm
  obtain ⟨s1, rfl, _, _, w1⟩ := open_string Tryz.underlying9 (hval 1 9 v1 rfl rfl) h1
  have k2 := h2
  have lt2 : ∀ x ∈ p2, x.block < W.heap.size := by obtain ⟨m, hm⟩ := k2; exact DataW.trod_lt m _ _ _ hm
  obtain ⟨x2, rfl, _, _, w2⟩ := open_int Tryz.underlying5 (hval 2 5 v2 rfl rfl) h2
  have k3 := h3
  have lt3 : ∀ x ∈ p3, x.block < W.heap.size := by obtain ⟨m, hm⟩ := k3; exact DataW.trod_lt m _ _ _ hm
  obtain ⟨b3, rfl, _, _⟩ := open_bool Tryz.underlying4 (hval 3 4 v3 rfl rfl) h3
  clear hA0 hval0 hval
  refine (fnIsFontSizeDecidesWhetherMangleFontRewrites_walk x0 s1 x2 b3 W  hL).mono fun e W' ⟨he, bel⟩ => ?_
  subst he
  exact ⟨_, rfl, _, _, _, [], _, _, hW', trodAll_mk1 (shut_bool Tryz.underlying4 _), (trodAll_cons_mk (Below.trod laidOut (by kernel_rfl) (of_decide_eq_true (by kernel_rfl)) k0 bel lt0) (trodAll_cons_mk (Below.trod laidOut (by kernel_rfl) (of_decide_eq_true (by kernel_rfl)) k1 bel lt1) (trodAll_cons_mk (Below.trod laidOut (by kernel_rfl) (of_decide_eq_true (by kernel_rfl)) k2 bel lt2) (trodAll_cons_mk (Below.trod laidOut (by kernel_rfl) (of_decide_eq_true (by kernel_rfl)) k3 bel lt3) trodAll_mk0)))), Below.trodVars laidOut bel (by kernel_rfl) hV, bel.frame _, fun h => by cases h⟩

theorem holds : Rows.FnIsFontSizeDecidesWhetherMangleFontRewritesSaid :=
  OpenClaim.holds_of_wide 3 Tryz.f3 rfl rfl rfl rfl rfl rfl rfl ⟨rfl, rfl, rfl, rfl, rfl⟩ rfl rfl rfl rfl rfl (by kernel_rfl) Tryz.func3 (by kernel_rfl)
    (of_decide_eq_true (by kernel_rfl)) (by unfold Func.isWrapper; first | (rw [if_pos (by decide +kernel)]; kernel_rfl) | (rw [if_neg (by decide +kernel)]; exact ⟨rfl, rfl⟩))
    (fun os started H enc _ => lifted os started H enc)

/-- The card. -/
theorem proved : Rows.FnIsFontSizeDecidesWhetherMangleFontRewritesCardSaid :=
  Claim7.holds_tied_plain_at .later [] [.data, .data, .widerDeep, .widerDeep, .data, .data, .data, .data, .data, .data, .sentinel, .sentinel, .mapped, .mapped, .mappedDeep, .pinned, .pinned, .pinned, .pinned] true (true, "7cef69c688616a13e16f255e3e186e0b8832a6f112c8e67bf1b39d3373934064") true holds (fun _ h => by cases h) (by kernel_rfl) (fun _ h => by cases h) fnIsFontSizeDecidesWhetherMangleFontRewrites_row_tie rfl ⟨rfl, rfl⟩ (by kernel_rfl) rfl
    (fun f fn hf hfn => by
      obtain rfl : f = 3 := Option.some.inj ((show Tryz.prog.funcNamed "github.com/evanw/esbuild/n011_200.FnIsFontSizeDecidesWhetherMangleFontRewrites" = some 3 by kernel_rfl).symm.trans hf) |>.symm
      obtain rfl : fn = Tryz.f3 := (Option.some.inj (Tryz.func3.symm.trans hfn)).symm
      exact ⟨by kernel_rfl, fun j t ht => by
        rw [Tryz.params3] at ht
        have hm : t ∈ [5, 9, 5, 4] := by simpa using Array.mem_of_getElem? ht
        have hall : ([5, 9, 5, 4].all fun u => !Tryz.prog.wantsStandIn u) = true := by kernel_rfl
        exact (show Tryz.prog.wantsStandIn t = false by simpa using List.all_eq_true.1 hall t hm)⟩)
    (by kernel_rfl)

#print axioms proved
end Go.Proofs.YtoeahdefgblmoaaGreatDoor.fnIsFontSizeDecidesWhetherMangleFontRewritesDone
