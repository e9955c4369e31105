/-
  Each code's token is one that tryToParseCalcTerm's contract speaks of.
-/
import Derived.Test.YthbfppnegodpoaaGreatDoorJ2
namespace Go.Proofs.YthbfppnegodpoaaGreatDoor
open Go.RowKit Go.Deep Go.PlainAid

theorem word_var : Word wVar := by unfold Word; decide +kernel
theorem word_calc : Word wCalc := by unfold Word; decide +kernel

theorem ef_of {w : World} (hF : Fold w) (s t : ByteArray) (hs : s.size < 4611686018427387904) (hW : Word t) (v : Bool) (h : v = true ↔ FoldEq s t) : EF w s t v := fun W hb => (equalfold_any s t W hs hW (hF.below hb)).mono fun e w' he => by
  obtain ⟨b, rfl, hbv, hbe⟩ := he
  have : b = v := by
    cases b <;> cases v
    · rfl
    · exact absurd (hbv.2 (h.1 rfl)) Bool.false_ne_true
    · exact absurd (h.2 (hbv.1 rfl)) Bool.false_ne_true
    · rfl
  subst this
  exact ⟨rfl, hbe⟩

/-- Nothing is left of a list of even length. -/
theorem parsed_even {ts : List CT} (h : ts.length % 2 = 0) : parsed ts = none := by
  unfold parsed
  rw [if_neg]
  intro h1
  have h2 : (addPass 1 (Nat.le_refl 1) (mulPass 1 (Nat.le_refl 1) ts)).length % 2 = ts.length % 2 := by
    unfold addPass
    rw [pass_par]
    unfold mulPass
    rw [pass_par]
  omega

def lfIn (v : Int) (i : Nat) : Option CT := if i = 0 then some (.num ⟨#[]⟩ (floatOfInt .f64 v)) else some (.val 23 txPlus 3 (badAt (inTok v) (inLen v) i))

theorem inner_leaf {w : World} {v : Int} (hE : Env w) (h0 : 0 ≤ v) (h1 : v ≤ 65535) (i : Nat) : LeafOk w (inTok v i) (badAt (inTok v) (inLen v) i) (lfIn v i) := by
  unfold lfIn
  by_cases h : i = 0
  · subst h
    rw [if_pos rfl]
    refine .num rfl _ fun W' hb => ?_
    show Calls Tryz.prog 41 #[.string (strOfNums (numZ v)), _] _ _
    exact parse_num v (by omega) (by omega) W' (hE.below hb).tabs
  · rw [if_neg h]
    have e : inTok v i = ⟨none, txPlus, 23, 3⟩ := by unfold inTok; rw [if_neg h]
    generalize badAt (inTok v) (inLen v) i = bad
    rw [e]
    exact .other (by decide) (by decide) (by decide) (by decide) (by decide) (by decide)

theorem inner_call {w : World} {v : Int} (hE : Env w) (h0 : 0 ≤ v) (h1 : v ≤ 65535) {rb cap : Nat} (ht : Toks w rb (inLen v) (inTok v)) : ∀ W', Below w.heap.size w W' → Calls Tryz.prog 30 #[.slice (some ⟨rb, 0, none⟩) (inLen v) cap] W' (Ans W' (parseOf (inLen v) (lfIn v))) := fun W' hb =>
  parse_any W' rb (inLen v) cap (inTok v) (lfIn v) (by unfold inLen; split <;> omega) (ht.below hb) (fun i _ => inner_leaf (hE.below hb) h0 h1 i)

/-- A code's term. -/
def lfAny (c : Int) (bad : Bool) : Option CT :=
  if kOf c = 1 then some (.val 30 ⟨#[120]⟩ (wsOf c) false) else
  if kOf c = 2 then some (.val 29 ⟨#[97]⟩ (wsOf c) bad) else
  if kOf c = 3 then some (.num ⟨#[]⟩ fInf) else
  if kOf c = 4 then some (.val 23 ⟨#[43]⟩ (wsOf c) bad) else
  if kOf c = 5 then some (.val 22 ⟨#[45]⟩ (wsOf c) bad) else
  if kOf c = 6 then some (.val 13 ⟨#[42]⟩ (wsOf c) bad) else
  if kOf c = 7 then some (.val 24 ⟨#[47]⟩ (wsOf c) bad) else
  if kOf c = 8 then parseOf (inLen (c / 64)) (lfIn (c / 64)) else
  if kOf c = 9 then parseOf (inLen (c / 64)) (lfIn (c / 64)) else
  if kOf c = 10 then none else
  if kOf c = 11 then some (.val 27 ⟨#[102, 111, 111]⟩ (wsOf c) bad) else
  if kOf c = 12 then some (.num ⟨#[]⟩ fNaN) else
  if kOf c = 13 then some (.num ⟨#[]⟩ fNeg) else
  some (.num ⟨#[]⟩ (floatOfInt .f64 (c / 64)))

theorem any_leaf {w : World} (hE : Env w) (c : Int) (h0 : 0 ≤ c) (h1 : c ≤ 65535) (ch : Option Addr) (bad : Bool) (lo : Nat) (hin : kOf c = 8 ∨ kOf c = 9 ∨ kOf c = 10 → InnerAt w lo ch (c / 64)) : LeafOk w (anyTok c ch) bad (lfAny c bad) := by
  have hF := hE.fold
  by_cases k1 : kOf c = 1
  · have e1 : anyTok c ch = ⟨none, ⟨#[120]⟩, 30, wsOf c⟩ := by unfold anyTok; simp [k1]
    have e2 : lfAny c bad = some (.val 30 ⟨#[120]⟩ (wsOf c) false) := by unfold lfAny; simp [k1]
    rw [e1, e2]
    exact .nonum rfl (fun W' hb => pf41_x W' (hE.below hb).syn)
  by_cases k2 : kOf c = 2
  · have e1 : anyTok c ch = ⟨none, ⟨#[97]⟩, 29, wsOf c⟩ := by unfold anyTok; simp [k2]
    have e2 : lfAny c bad = some (.val 29 ⟨#[97]⟩ (wsOf c) bad) := by unfold lfAny; simp [k2]
    rw [e1, e2]
    exact .ident rfl (ef_of hF ⟨#[97]⟩ wInf (by decide) word_inf false (by unfold FoldEq; decide +kernel)) (ef_of hF ⟨#[97]⟩ wNeg (by decide) word_neg false (by unfold FoldEq; decide +kernel)) (ef_of hF ⟨#[97]⟩ wNaN (by decide) word_nan false (by unfold FoldEq; decide +kernel))
  by_cases k3 : kOf c = 3
  · have e1 : anyTok c ch = ⟨none, ⟨#[105, 110, 102, 105, 110, 105, 116, 121]⟩, 29, wsOf c⟩ := by unfold anyTok; simp [k3]
    have e2 : lfAny c bad = some (.num ⟨#[]⟩ fInf) := by unfold lfAny; simp [k3]
    rw [e1, e2]
    exact .inf1 rfl (ef_of hF ⟨#[105, 110, 102, 105, 110, 105, 116, 121]⟩ wInf (by decide) word_inf true (by unfold FoldEq; decide +kernel))
  by_cases k4 : kOf c = 4
  · have e1 : anyTok c ch = ⟨none, ⟨#[43]⟩, 23, wsOf c⟩ := by unfold anyTok; simp [k4]
    have e2 : lfAny c bad = some (.val 23 ⟨#[43]⟩ (wsOf c) bad) := by unfold lfAny; simp [k4]
    rw [e1, e2]
    exact .other rfl rfl rfl rfl rfl rfl
  by_cases k5 : kOf c = 5
  · have e1 : anyTok c ch = ⟨none, ⟨#[45]⟩, 22, wsOf c⟩ := by unfold anyTok; simp [k5]
    have e2 : lfAny c bad = some (.val 22 ⟨#[45]⟩ (wsOf c) bad) := by unfold lfAny; simp [k5]
    rw [e1, e2]
    exact .other rfl rfl rfl rfl rfl rfl
  by_cases k6 : kOf c = 6
  · have e1 : anyTok c ch = ⟨none, ⟨#[42]⟩, 13, wsOf c⟩ := by unfold anyTok; simp [k6]
    have e2 : lfAny c bad = some (.val 13 ⟨#[42]⟩ (wsOf c) bad) := by unfold lfAny; simp [k6]
    rw [e1, e2]
    exact .other rfl rfl rfl rfl rfl rfl
  by_cases k7 : kOf c = 7
  · have e1 : anyTok c ch = ⟨none, ⟨#[47]⟩, 24, wsOf c⟩ := by unfold anyTok; simp [k7]
    have e2 : lfAny c bad = some (.val 24 ⟨#[47]⟩ (wsOf c) bad) := by unfold lfAny; simp [k7]
    rw [e1, e2]
    exact .other rfl rfl rfl rfl rfl rfl
  by_cases k8 : kOf c = 8
  · have e1 : anyTok c ch = ⟨ch, ⟨#[40]⟩, 33, wsOf c⟩ := by unfold anyTok; simp [k8]
    have e2 : lfAny c bad = parseOf (inLen (c / 64)) (lfIn (c / 64)) := by unfold lfAny; simp [k8]
    rw [e1, e2]
    obtain ⟨cb, rb, cap, _, _, hc1, hc2, hc3⟩ := hin (by omega)
    exact LeafOk.paren (t := ⟨ch, ⟨#[40]⟩, 33, wsOf c⟩) rfl cb _ _ _ _ hc1 hc2 (inner_call hE (by omega) (by omega) hc3)
  by_cases k9 : kOf c = 9
  · have e1 : anyTok c ch = ⟨ch, ⟨#[99, 97, 108, 99]⟩, 27, wsOf c⟩ := by unfold anyTok; simp [k9]
    have e2 : lfAny c bad = parseOf (inLen (c / 64)) (lfIn (c / 64)) := by unfold lfAny; simp [k9]
    rw [e1, e2]
    obtain ⟨cb, rb, cap, _, _, hc1, hc2, hc3⟩ := hin (by omega)
    exact LeafOk.fcalc (t := ⟨ch, ⟨#[99, 97, 108, 99]⟩, 27, wsOf c⟩) rfl (ef_of hF ⟨#[99, 97, 108, 99]⟩ wVar (by decide) word_var false (by unfold FoldEq; decide +kernel)) (ef_of hF ⟨#[99, 97, 108, 99]⟩ wCalc (by decide) word_calc true (by unfold FoldEq; decide +kernel)) cb _ _ _ _ hc1 hc2 (inner_call hE (by omega) (by omega) hc3)
  by_cases k10 : kOf c = 10
  · have e1 : anyTok c ch = ⟨ch, ⟨#[86, 65, 82]⟩, 27, wsOf c⟩ := by unfold anyTok; simp [k10]
    have e2 : lfAny c bad = none := by unfold lfAny; simp [k10]
    rw [e1, e2]
    exact .var rfl (ef_of hF ⟨#[86, 65, 82]⟩ wVar (by decide) word_var true (by unfold FoldEq; decide +kernel))
  by_cases k11 : kOf c = 11
  · have e1 : anyTok c ch = ⟨none, ⟨#[102, 111, 111]⟩, 27, wsOf c⟩ := by unfold anyTok; simp [k11]
    have e2 : lfAny c bad = some (.val 27 ⟨#[102, 111, 111]⟩ (wsOf c) bad) := by unfold lfAny; simp [k11]
    rw [e1, e2]
    exact .fn rfl (ef_of hF ⟨#[102, 111, 111]⟩ wVar (by decide) word_var false (by unfold FoldEq; decide +kernel)) (ef_of hF ⟨#[102, 111, 111]⟩ wCalc (by decide) word_calc false (by unfold FoldEq; decide +kernel))
  by_cases k12 : kOf c = 12
  · have e1 : anyTok c ch = ⟨none, ⟨#[110, 97, 110]⟩, 29, wsOf c⟩ := by unfold anyTok; simp [k12]
    have e2 : lfAny c bad = some (.num ⟨#[]⟩ fNaN) := by unfold lfAny; simp [k12]
    rw [e1, e2]
    exact .nan rfl (ef_of hF ⟨#[110, 97, 110]⟩ wInf (by decide) word_inf false (by unfold FoldEq; decide +kernel)) (ef_of hF ⟨#[110, 97, 110]⟩ wNeg (by decide) word_neg false (by unfold FoldEq; decide +kernel)) (ef_of hF ⟨#[110, 97, 110]⟩ wNaN (by decide) word_nan true (by unfold FoldEq; decide +kernel))
  by_cases k13 : kOf c = 13
  · have e1 : anyTok c ch = ⟨none, ⟨#[45, 73, 110, 102, 105, 110, 105, 116, 121]⟩, 29, wsOf c⟩ := by unfold anyTok; simp [k13]
    have e2 : lfAny c bad = some (.num ⟨#[]⟩ fNeg) := by unfold lfAny; simp [k13]
    rw [e1, e2]
    exact .inf2 rfl (ef_of hF ⟨#[45, 73, 110, 102, 105, 110, 105, 116, 121]⟩ wInf (by decide) word_inf false (by unfold FoldEq; decide +kernel)) (ef_of hF ⟨#[45, 73, 110, 102, 105, 110, 105, 116, 121]⟩ wNeg (by decide) word_neg true (by unfold FoldEq; decide +kernel))
  have e1 : anyTok c ch = ⟨none, strOfNums (numZ (c / 64)), 30, wsOf c⟩ := by unfold anyTok; simp [k1, k2, k3, k4, k5, k6, k7, k8, k9, k10, k11, k12, k13]
  have e2 : lfAny c bad = some (.num ⟨#[]⟩ (floatOfInt .f64 (c / 64))) := by unfold lfAny; simp [k1, k2, k3, k4, k5, k6, k7, k8, k9, k10, k11, k12, k13]
  rw [e1, e2]
  exact .num rfl _ (fun W' hb => parse_num (c / 64) (by omega) (by omega) W' (hE.below hb).tabs)
end Go.Proofs.YthbfppnegodpoaaGreatDoor

