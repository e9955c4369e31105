/-
  unicode.SimpleFold, walked, over its three tables as they are laid.
-/
import Derived.Test.YtnoghiefpdbpbaaGreatFmtX
import Derived.Test.YtnoghiefpdbpbaaGreatFmtV2
import Derived.Lib.LaidCase
import Derived.Deep.LoopGhost
import Derived.WalkKit
namespace Go.Proofs.YtnoghiefpdbpbaaGreatFmt
open Go.RowKit Go.Deep Go.PlainAid Go.Lib

/-- The tables of SimpleFold. -/
structure FoldTabs (w : World) : Prop where
  asc : ∀ c : Nat, c < 128 → w.cell? ⟨0, c, none⟩ = some (.int .u16 ((ascF.getD c 0 : Nat) : Int))
  orb : ∃ R oR cap, w.cell? ⟨1, 0, none⟩ = some (.slice (some ⟨R, oR, none⟩) 94 cap) ∧ ∀ i : Nat, i < 94 → w.cell? ⟨R, oR + i * 2, none⟩ = some (.int .u16 (((orbT.getD i (0, 0)).1 : Nat) : Int)) ∧ w.cell? ⟨R, oR + i * 2 + 1, none⟩ = some (.int .u16 (((orbT.getD i (0, 0)).2 : Nat) : Int))
  rows : CaseVar 2 caseA w
theorem FoldTabs.below {w w' : World} (h : FoldTabs w) (hb : Below w.heap.size w w') : FoldTabs w' := by
  obtain ⟨h1, ⟨R, oR, cap, h2, h3⟩, ⟨R2, oR2, cap2, h4, h5⟩⟩ := h
  refine ⟨fun c hc => cell_later hb (h1 c hc), ⟨R, oR, cap, cell_later hb h2, fun i hi => ⟨cell_later hb (h3 i hi).1, cell_later hb (h3 i hi).2⟩⟩, ⟨R2, oR2, cap2, cell_later hb h4, fun i hi => ?_⟩⟩
  obtain ⟨a, b, c, d, e⟩ := h5 i hi
  exact ⟨cell_later hb a, cell_later hb b, cell_later hb c, cell_later hb d, cell_later hb e⟩

theorem orb_sorted : orbT.Pairwise (fun p q => p.1 < q.1) := by decide +kernel
theorem orb_len : orbT.length = 94 := by decide +kernel
theorem orb_small : ∀ p ∈ orbT, p.1 ≤ 65535 ∧ p.2 ≤ 65535 := by decide +kernel
theorem asc_small : ∀ x ∈ ascF, x ≤ 65535 := by decide +kernel
theorem asc_len : ascF.length = 128 := by decide +kernel
theorem orb_at (i : Nat) (hi : i < 94) : orbT.getD i (0, 0) = orbT[i]'(by rw [orb_len]; exact hi) := by
  rw [List.getD_eq_getElem?_getD, List.getElem?_eq_getElem (by rw [orb_len]; exact hi), Option.getD_some]
theorem orb_less (i j : Nat) (h : i < j) (hj : j < 94) : (orbT.getD i (0, 0)).1 < (orbT.getD j (0, 0)).1 := by
  rw [orb_at i (by omega), orb_at j hj]
  exact List.pairwise_iff_getElem.1 orb_sorted i j _ _ h
theorem orb_le (i : Nat) (hi : i < 94) : (orbT.getD i (0, 0)).1 ≤ 65535 ∧ (orbT.getD i (0, 0)).2 ≤ 65535 := by
  rw [orb_at i hi]
  exact orb_small _ (List.getElem_mem _)
theorem orbGet_none {r : Nat} (h : ∀ i, i < 94 → (orbT.getD i (0, 0)).1 ≠ r) : orbGet r = none := by
  cases ho : orbGet r with
  | none => rfl
  | some t =>
    obtain ⟨p, hp, e1, _⟩ := orbGet_mem ho
    obtain ⟨i, hi, hx⟩ := List.getElem_of_mem hp
    rw [orb_len] at hi
    refine absurd ?_ (h i hi)
    rw [orb_at i hi, hx]
    exact e1
theorem orbGet_some {r i : Nat} (hi : i < 94) (h : (orbT.getD i (0, 0)).1 = r) : orbGet r = some (orbT.getD i (0, 0)).2 := by
  cases ho : orbGet r with
  | none =>
    unfold orbGet at ho
    rw [Option.map_eq_none_iff, List.find?_eq_none] at ho
    exact absurd (beq_iff_eq.2 h) (ho (orbT.getD i (0, 0)) (by rw [orb_at i hi]; exact List.getElem_mem _))
  | some t =>
    obtain ⟨p, hp, e1, e2⟩ := orbGet_mem ho
    obtain ⟨j, hj, hx⟩ := List.getElem_of_mem hp
    rw [orb_len] at hj
    have e3 : (orbT.getD j (0, 0)) = p := (orb_at j hj).trans hx
    rcases Nat.lt_trichotomy i j with h1 | h1 | h1
    · have := orb_less i j h1 hj
      rw [e3] at this
      omega
    · subst h1
      rw [e3, e2]
    · have := orb_less j i h1 hi
      rw [e3] at this
      omega

set_option maxRecDepth 100000 in
theorem rows_small : ∀ x ∈ caseT, x.2.1 ≤ 1114111 ∧ -100000 ≤ x.2.2.1 ∧ -100000 ≤ x.2.2.2.1 := by decide +kernel
theorem conv_small {r : Int} {x : CaseRow} (hx : x ∈ caseT) (h1 : (x.1 : Int) ≤ r) (h2 : r ≤ (x.2.1 : Int)) (c : Nat) (hc : c < 2) : wrap32 (convertR c r x) = convertR c r x := by
  obtain ⟨a1, a2, a3⟩ := rows_small x hx
  have hd : -100000 ≤ CaseRow.delta x c := by
    match c, hc with
    | 0, _ => exact a2
    | 1, _ => exact a3
  unfold convertR
  have hw : ∀ z : Int, -2147483648 ≤ z → z ≤ 2147483647 → wrap32 z = z := fun z h3 h4 => by unfold wrap32; omega
  split
  · exact hw _ (by omega) (by omega)
  · exact hw _ (by omega) (by omega)
theorem case_ok : CaseOk caseA := fun i hi => by
  rw [caseA_at i hi]
  have h := rows_small _ (List.getElem_mem (by rw [← caseA_size]; exact hi))
  have h2 := rows_whole _ (List.getElem_mem (l := caseT) (n := i) (by rw [← caseA_size]; exact hi))
  exact ⟨by omega, by omega⟩
theorem caseA_336 : caseA.size = 336 := by rw [caseA_size]; decide +kernel

theorem fold_out {r : Int} (h : r < 0 ∨ 1114111 < r) : foldI r = r := by
  unfold foldI
  rw [if_pos h]
theorem fold_low {m : Nat} (h : m < 128) : foldI m = ((ascF.getD m 0 : Nat) : Int) := by
  unfold foldI
  rw [if_neg (by omega), if_pos (by omega), Int.toNat_natCast]
theorem fold_high {m : Nat} (h : ¬ m < 128) (h2 : m ≤ 1114111) : (∀ t, orbGet m = some t → foldI m = (t : Int)) ∧ (orbGet m = none → (∀ x, rowOf m = some x → foldI m = stepR m x) ∧ (rowOf m = none → foldI m = m)) := by
  unfold foldI
  rw [if_neg (by omega), if_neg (by omega), Int.toNat_natCast]
  refine ⟨fun t ht => by rw [ht], fun hn => ⟨fun x hx => by rw [hn, hx], fun hx => by rw [hn, hx]⟩⟩

/-- The answer is this; of what was there nothing is turned. -/
def Ret (v : Value) (w : World) (e : Ending) (w' : World) : Prop := e = .returned v ∧ Below w.heap.size w w'

set_option maxHeartbeats 1000000 in
set_option maxRecDepth 100000 in
theorem simplefold_any (r : Int) (w : World) (h0 : -2147483648 ≤ r) (h1 : r ≤ 2147483647) (hF : FoldTabs w) : Calls Tryz.prog 30 #[.int .i32 r] w (Ret (.int .i32 (foldI r)) w) := by
  obtain ⟨hA, ⟨R, oR, cap, g1, g2⟩, ⟨R2, oR2, cap2, g3, g4⟩⟩ := hF
  by_cases hlo : r < 0
  · rw [fold_out (.inl hlo)]
    go_enter Tryz.func30, Tryz.ntmps30
    go_wp2_with fail
    go_ret
    exact ⟨rfl, Below.refl _ _⟩
  by_cases hhi : 1114111 < r
  · rw [fold_out (.inr hhi)]
    go_enter Tryz.func30, Tryz.ntmps30
    go_wp2_with fail
    go_ret
    exact ⟨rfl, Below.refl _ _⟩
  obtain ⟨m, rfl⟩ : ∃ m : Nat, r = m := ⟨r.toNat, by omega⟩
  by_cases h128 : m < 128
  · rw [fold_low h128]
    have hc := hA m h128
    have hs : ascF.getD m 0 ≤ 65535 := by
      rw [List.getD_eq_getElem?_getD, List.getElem?_eq_getElem (by rw [asc_len]; exact h128), Option.getD_some]
      exact asc_small _ (List.getElem_mem _)
    generalize ascF.getD m 0 = x at hc hs
    have hlt : (m : Int) < 128 := by omega
    clear hA g1 g2 g3 g4
    go_enter Tryz.func30, Tryz.ntmps30
    go_wp2_with fail
    go_ret
    exact ⟨by go_num, Below.refl _ _⟩
  have hge : ¬ (m : Int) < 128 := by omega
  have hmh : m ≤ 1114111 := by omega
  have eRES := fold_high h128 hmh
  generalize foldI m = RES at eRES ⊢
  have HR := Lib.hid eRES
  have G2 := Lib.hid g2
  have cL := Tryz.unicode_lookupCaseRange caseA R2 oR2 cap2 m w g4 case_ok (by rw [caseA_336]; omega)
  have CL := Lib.hid cL
  have G4 := Lib.hid g4
  obtain ⟨n2, en2⟩ : ∃ n2, n2 = caseA.size := ⟨_, rfl⟩
  rw [← en2] at g3
  have EN2 := Lib.hid en2
  clear hA g2 g4 cL eRES en2 hlo hhi h128 h0 h1
  go_enter Tryz.func30, Tryz.ntmps30
  go_wp2_with fail
  go_loopg [3, 4] 95 (fun g s3 s4 wx => wx = w ∧ ∃ lo hi : Nat, s3 = .int .i64 lo ∧ s4 = .int .i64 hi ∧ lo ≤ hi ∧ hi ≤ 94 ∧ hi - lo < g ∧ Hid ((∀ i, i < lo → (orbT.getD i (0, 0)).1 < m) ∧ ∀ i, hi ≤ i → i < 94 → m ≤ (orbT.getD i (0, 0)).1))
  case atStart => exact ⟨rfl, 0, 94, rfl, rfl, Nat.zero_le _, Nat.le_refl _, by omega, Lib.hid ⟨fun i hi => absurd hi (Nat.not_lt_zero _), fun i h1 h2 => by omega⟩⟩
  case round =>
    obtain ⟨rfl, lo, hi, rfl, rfl, hlh, hhn, hg, hl⟩ := hrel
    by_cases hlt : lo < hi
    · obtain ⟨g', rfl⟩ : ∃ g', gk = g' + 1 := ⟨gk - 1, by omega⟩
      have hz : (lo : Int) < (hi : Int) := by omega
      obtain ⟨q, hq⟩ : ∃ q, (lo + hi) / 2 = q := ⟨_, rfl⟩
      have hqr : lo ≤ q ∧ q < hi := by omega
      have hqz : ((lo : Int) + (hi : Int)) / 2 = (q : Int) := by omega
      have hq94 : q < 94 := by omega
      obtain ⟨c0, -⟩ := G2.out q hq94
      obtain ⟨o0, -⟩ := orb_le q hq94
      obtain ⟨x, ex⟩ : ∃ x, x = (orbT.getD q (0, 0)).1 := ⟨_, rfl⟩
      rw [← ex] at c0 o0
      have EX := Lib.hid ex
      clear ex
      by_cases hb : x < m
      · have hbz : (x : Int) < (m : Int) := by omega
        go_wp2_with fail
        go_roundg g'
        case measure => omega
        case rel => exact ⟨rfl, q + 1, hi, by first | rfl | simp, rfl, by omega, by omega, by omega, Lib.hid ⟨fun i hi => by
          rcases Nat.lt_or_ge i q with h | h
          · have := orb_less i q h hq94
            have := EX.out
            omega
          · obtain rfl : i = q := by omega
            rw [← EX.out]; exact hb, hl.out.2⟩⟩
      · have hbz : ¬ (x : Int) < (m : Int) := by omega
        go_wp2_with fail
        go_roundg g'
        case measure => omega
        case rel => exact ⟨rfl, lo, q, rfl, rfl, by omega, by omega, by omega, Lib.hid ⟨hl.out.1, fun i h1 h2 => by
          rcases Nat.lt_or_ge q i with h | h
          · have := orb_less q i h h2
            have := EX.out
            omega
          · obtain rfl : i = q := by omega
            rw [← EX.out]; omega⟩⟩
    · have hz : ¬ (lo : Int) < (hi : Int) := by omega
      obtain rfl : lo = hi := by omega
      by_cases hend : lo < 94 ∧ (orbT.getD lo (0, 0)).1 = m
      · obtain ⟨h94, he⟩ := hend
        obtain ⟨c0, c1⟩ := G2.out lo h94
        obtain ⟨-, o1⟩ := orb_le lo h94
        have hr := HR.out.1 _ (orbGet_some h94 he)
        rw [he] at c0
        obtain ⟨y, ey⟩ : ∃ y, y = (orbT.getD lo (0, 0)).2 := ⟨_, rfl⟩
        rw [← ey] at c1 o1 hr
        have h94z : (lo : Int) < 94 := by omega
        have hmq : (m : Int) ≤ 65535 := by have := (orb_le lo h94).1; omega
        clear ey he HR hl
        subst hr
        go_wp2_with fail
        go_ret
        exact ⟨by go_num, Below.refl _ _⟩
      · have hnone : orbGet m = none := orbGet_none fun i hi e => by
          rcases Nat.lt_trichotomy i lo with h | h | h
          · have := hl.out.1 i h; omega
          · subst h; exact hend ⟨hi, e⟩
          · have h1 := orb_less lo i h hi
            have h2 := hl.out.2 lo (Nat.le_refl _) (by omega)
            omega
        have hr := Lib.hid (HR.out.2 hnone)
        clear HR hlt
        have h94 : lo < 94 ∨ lo = 94 := by omega
        rcases h94 with h94 | rfl
        · have c0 := (G2.out lo h94).1
          have o0 := (orb_le lo h94).1
          have hxm : ((((orbT.getD lo (0, 0)).1 : Nat) : Int) == (m : Int)) = false := by
            rw [beq_eq_false_iff_ne]
            intro e
            exact hend ⟨h94, by omega⟩
          have h94z : (lo : Int) < 94 := by omega
          generalize (orbT.getD lo (0, 0)).1 = x at c0 o0 hxm
          clear hend hl G2
          cases hli : lookupIdx caseA m (caseA.size + 1) 0 caseA.size with
          | none =>
            have hrow : rowOf m = none := by unfold rowOf lookupGo; rw [hli]; rfl
            have hres := hr.out.2 hrow
            have cl := CL.out
            rw [hli, ← EN2.out] at cl
            clear CL EN2 hli hrow hr G4
            subst hres
            go_wp2_with (first | (go_at_call 37; refine cl.mono ?_; rintro e w' ⟨rfl, rfl⟩) | fail)
            go_ret
            exact ⟨rfl, Below.refl _ _⟩
          | some k =>
            obtain ⟨k1, k2, k3⟩ := idx_in _ _ _ (Nat.le_refl _) hli
            obtain ⟨x5, ex5⟩ : ∃ x5, x5 = caseA.getD k (0, 0, 0, 0, 0) := ⟨_, rfl⟩
            have hmem : x5 ∈ caseT := by rw [ex5, caseA_at k k1]; exact List.getElem_mem _
            have hrow : rowOf m = some x5 := by unfold rowOf lookupGo; rw [hli, ex5]; rfl
            have hres := hr.out.1 x5 hrow
            rw [← ex5] at k2 k3
            have hH : x5.2.1 < 2147483647 := by have := (rows_small x5 hmem).1; omega
            have d0 := (G4.out k k1).1
            have dD := fun c hc => CaseTab.delta G4.out k k1 c hc
            rw [← ex5] at d0 dD
            have hcv := fun (c : Nat) (hc : c < 2) (q : Nat) => Tryz.unicode_convertCase c (by omega) m R2 (oR2 + k * 5) x5 (World.drewN _ q) k2 k3 hH d0 (dD c (by omega))
            have cl := CL.out
            rw [hli, ← EN2.out] at cl
            simp only at cl
            obtain ⟨l, el⟩ : ∃ l, l = convertR 1 m x5 := ⟨_, rfl⟩
            obtain ⟨u, eu⟩ : ∃ u, u = convertR 0 m x5 := ⟨_, rfl⟩
            have hc1 := fun q => hcv 1 (by omega) q
            have hc0 := fun q => hcv 0 (by omega) q
            rw [conv_small hmem k2 k3 1 (by omega), ← el] at hc1
            rw [conv_small hmem k2 k3 0 (by omega), ← eu] at hc0
            have hst : RES = if l = m then u else l := by rw [hres]; unfold stepR; rw [el, eu]
            have hc1' : Calls Tryz.prog 38 #[.int .i64 1, .int .i32 m, .pointer (some ⟨R2, oR2 + k * 5, none⟩)] wr fun e w' => e = .returned (.int .i32 l) ∧ ∃ q, w' = wr.drewN q := hc1 0
            have hc0' : ∀ q, Calls Tryz.prog 38 #[.int .i64 0, .int .i32 m, .pointer (some ⟨R2, oR2 + k * 5, none⟩)] (wr.drewN q) fun e w' => e = .returned (.int .i32 u) ∧ ∃ q', w' = (wr.drewN q).drewN q' := hc0
            have HC1 := Lib.hid hc1'
            have HC0 := Lib.hid hc0'
            clear hc1 hc0 hc1' hc0' hcv el eu hres hr dD d0 ex5 hmem hrow hli CL EN2 G4 hH k1 k2 k3
            by_cases hlm : l = m
            · rw [if_pos hlm] at hst
              subst hst
              have hne : ((l : Int) != (m : Int)) = false := by simp [hlm]
              have HLM := Lib.hid hlm
              clear hlm
              go_wp2_with (first | (go_at_call 37; refine cl.mono ?_; rintro e w' ⟨rfl, rfl⟩) | (go_at_call_of 38 (Value.int .i64 1); refine HC1.out.mono ?_; rintro e w' ⟨rfl, q1, rfl⟩) | (go_at_call_of 38 (Value.int .i64 0); refine (HC0.out _).mono ?_; rintro e w' ⟨rfl, q2, rfl⟩) | fail)
              go_ret
              exact ⟨rfl, below_drewN (Below.refl _ _) _⟩
            · rw [if_neg hlm] at hst
              subst hst
              have hne : ((RES : Int) != (m : Int)) = true := by simp [hlm]
              have HLM := Lib.hid hlm
              clear hlm
              go_wp2_with (first | (go_at_call 37; refine cl.mono ?_; rintro e w' ⟨rfl, rfl⟩) | (go_at_call_of 38 (Value.int .i64 1); refine HC1.out.mono ?_; rintro e w' ⟨rfl, q1, rfl⟩) | fail)
              go_ret
              exact ⟨rfl, below_drewN (Below.refl _ _) _⟩
        · clear hend hl G2
          cases hli : lookupIdx caseA m (caseA.size + 1) 0 caseA.size with
          | none =>
            have hrow : rowOf m = none := by unfold rowOf lookupGo; rw [hli]; rfl
            have hres := hr.out.2 hrow
            have cl := CL.out
            rw [hli, ← EN2.out] at cl
            clear CL EN2 hli hrow hr G4
            subst hres
            go_wp2_with (first | (go_at_call 37; refine cl.mono ?_; rintro e w' ⟨rfl, rfl⟩) | fail)
            go_ret
            exact ⟨rfl, Below.refl _ _⟩
          | some k =>
            obtain ⟨k1, k2, k3⟩ := idx_in _ _ _ (Nat.le_refl _) hli
            obtain ⟨x5, ex5⟩ : ∃ x5, x5 = caseA.getD k (0, 0, 0, 0, 0) := ⟨_, rfl⟩
            have hmem : x5 ∈ caseT := by rw [ex5, caseA_at k k1]; exact List.getElem_mem _
            have hrow : rowOf m = some x5 := by unfold rowOf lookupGo; rw [hli, ex5]; rfl
            have hres := hr.out.1 x5 hrow
            rw [← ex5] at k2 k3
            have hH : x5.2.1 < 2147483647 := by have := (rows_small x5 hmem).1; omega
            have d0 := (G4.out k k1).1
            have dD := fun c hc => CaseTab.delta G4.out k k1 c hc
            rw [← ex5] at d0 dD
            have hcv := fun (c : Nat) (hc : c < 2) (q : Nat) => Tryz.unicode_convertCase c (by omega) m R2 (oR2 + k * 5) x5 (World.drewN _ q) k2 k3 hH d0 (dD c (by omega))
            have cl := CL.out
            rw [hli, ← EN2.out] at cl
            simp only at cl
            obtain ⟨l, el⟩ : ∃ l, l = convertR 1 m x5 := ⟨_, rfl⟩
            obtain ⟨u, eu⟩ : ∃ u, u = convertR 0 m x5 := ⟨_, rfl⟩
            have hc1 := fun q => hcv 1 (by omega) q
            have hc0 := fun q => hcv 0 (by omega) q
            rw [conv_small hmem k2 k3 1 (by omega), ← el] at hc1
            rw [conv_small hmem k2 k3 0 (by omega), ← eu] at hc0
            have hst : RES = if l = m then u else l := by rw [hres]; unfold stepR; rw [el, eu]
            have hc1' : Calls Tryz.prog 38 #[.int .i64 1, .int .i32 m, .pointer (some ⟨R2, oR2 + k * 5, none⟩)] wr fun e w' => e = .returned (.int .i32 l) ∧ ∃ q, w' = wr.drewN q := hc1 0
            have hc0' : ∀ q, Calls Tryz.prog 38 #[.int .i64 0, .int .i32 m, .pointer (some ⟨R2, oR2 + k * 5, none⟩)] (wr.drewN q) fun e w' => e = .returned (.int .i32 u) ∧ ∃ q', w' = (wr.drewN q).drewN q' := hc0
            have HC1 := Lib.hid hc1'
            have HC0 := Lib.hid hc0'
            clear hc1 hc0 hc1' hc0' hcv el eu hres hr dD d0 ex5 hmem hrow hli CL EN2 G4 hH k1 k2 k3
            by_cases hlm : l = m
            · rw [if_pos hlm] at hst
              subst hst
              have hne : ((l : Int) != (m : Int)) = false := by simp [hlm]
              have HLM := Lib.hid hlm
              clear hlm
              go_wp2_with (first | (go_at_call 37; refine cl.mono ?_; rintro e w' ⟨rfl, rfl⟩) | (go_at_call_of 38 (Value.int .i64 1); refine HC1.out.mono ?_; rintro e w' ⟨rfl, q1, rfl⟩) | (go_at_call_of 38 (Value.int .i64 0); refine (HC0.out _).mono ?_; rintro e w' ⟨rfl, q2, rfl⟩) | fail)
              go_ret
              exact ⟨rfl, below_drewN (Below.refl _ _) _⟩
            · rw [if_neg hlm] at hst
              subst hst
              have hne : ((RES : Int) != (m : Int)) = true := by simp [hlm]
              have HLM := Lib.hid hlm
              clear hlm
              go_wp2_with (first | (go_at_call 37; refine cl.mono ?_; rintro e w' ⟨rfl, rfl⟩) | (go_at_call_of 38 (Value.int .i64 1); refine HC1.out.mono ?_; rintro e w' ⟨rfl, q1, rfl⟩) | fail)
              go_ret
              exact ⟨rfl, below_drewN (Below.refl _ _) _⟩
end Go.Proofs.YtnoghiefpdbpbaaGreatFmt
