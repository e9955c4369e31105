/-
  tryToParseCalcTerm, walked whole: over any row of tokens it answers what the two passes make of the tokens' terms.
-/
import Derived.Test.YthbfppnegodpoaaGreatDoorF1
namespace Go.Proofs.YthbfppnegodpoaaGreatDoor
open Go.RowKit Go.Deep Go.PlainAid

/-- What the two passes make of the terms. -/
def parsed (ts : List CT) : Option CT :=
  if (addPass 1 (Nat.le_refl 1) (mulPass 1 (Nat.le_refl 1) ts)).length = 1 then some ((addPass 1 (Nat.le_refl 1) (mulPass 1 (Nat.le_refl 1) ts)).getD 0 dT) else none

/-- What the parse of n tokens answers. -/
def parseOf (n : Nat) (lf : Nat → Option CT) : Option CT :=
  if (List.range n).all (fun i => (lf i).isSome) then parsed ((List.range n).map fun i => (lf i).getD dT) else none

theorem parse_none {n : Nat} {lf : Nat → Option CT} {j : Nat} (hj : j < n) (h : lf j = none) : parseOf n lf = none := by
  unfold parseOf
  rw [if_neg]
  intro ha
  have := List.all_eq_true.1 ha j (List.mem_range.2 hj)
  rw [h] at this
  cases this

theorem parse_all {n : Nat} {lf : Nat → Option CT} {ts : List CT} (hl : ts.length = n) (h : ∀ j, j < n → lf j = some (ts.getD j dT)) : parseOf n lf = parsed ts := by
  unfold parseOf
  rw [if_pos (List.all_eq_true.2 fun j hj => by rw [h j (List.mem_range.1 hj)]; rfl)]
  congr 1
  apply List.ext_getElem
  · simp [hl]
  · intro j h1 h2
    rw [List.getElem_map, List.getElem_range, h j (by omega), Option.getD_some, List.getD_eq_getElem?_getD, List.getElem?_eq_getElem h2, Option.getD_some]

set_option maxHeartbeats 4000000 in
set_option maxRecDepth 100000 in
theorem fill_wp {d : Code} (hcode : Tryz.f30.body.bind (fb 0) = some (.block 0 d)) (p r : Act → World → Prop) (a : Act) (W w0 : World) (b n cap T : Nat) (tk : Nat → TK) (lf : Nat → Option CT)
    (hfr : Fr a) (e0 : a.tmps[0]? = some (.slice (some ⟨b, 0, none⟩) n cap)) (e3 : a.tmps[3]? = some (.slice (some ⟨T, 0, none⟩) n n)) (e35 : a.tmps[35]? = some (.slice (some ⟨b, 0, none⟩) n cap)) (e36 : a.tmps[36]? = some (.int .i64 n)) (e37 : a.tmps[37]? = some (.int .i64 0))
    (hn : n ≤ 4096) (hT : T = w0.heap.size) (htk : Toks w0 b n tk) (hbel : Below T w0 W) (hrow : Row W (T < ·) T n []) (hlf : ∀ i, i < n → LeafOk w0 (tk i) (badAt tk n i) (lf i))
    (hP : ∀ a' W' ts, ts.length = n → (∀ j, j < n → lf j = some (ts.getD j dT)) → Fr a' → a'.tmps[3]? = some (.slice (some ⟨T, 0, none⟩) n n) → Row W' (T < ·) T n ts → Below T w0 W' → p a' W')
    (hR : ∀ a' W' j, j < n → lf j = none → Fr a' → a'.tmps[2]? = some .nilIface → Below T w0 W' → r a' W') :
    Code.wp Tryz.prog (.block 0 d) (OnNR p r) a W := by
  have key : ∀ {D : Code}, Tryz.f30.body.bind (fb 0) = some (.block 0 D) → Code.wp Tryz.prog (.block 0 D) (OnNR p r) a W → Code.wp Tryz.prog (.block 0 d) (OnNR p r) a W := fun e h => by
    rw [e] at hcode
    cases hcode
    exact h
  refine key rfl ?_
  clear key hcode
  refine wp_block ?_
  refine wp_loop (fun a w => Fr a ∧ ∃ i ts, i ≤ n ∧ a.tmps[0]? = some (.slice (some ⟨b, 0, none⟩) n cap) ∧ a.tmps[3]? = some (.slice (some ⟨T, 0, none⟩) n n) ∧ a.tmps[35]? = some (.slice (some ⟨b, 0, none⟩) n cap) ∧ a.tmps[36]? = some (.int .i64 n) ∧ a.tmps[37]? = some (.int .i64 (i : Int)) ∧
      ts.length = i ∧ (∀ j, j < i → lf j = some (ts.getD j dT)) ∧ Row w (T < ·) T n ts ∧ Below T w0 w) (fun a _ => n - intAt a 37)
    ⟨hfr, 0, [], Nat.zero_le _, e0, e3, e35, e36, e37, rfl, fun j hj => absurd hj (Nat.not_lt_zero _), hrow, hbel⟩ ?_
  clear hfr e0 e3 e35 e36 e37 hrow hbel a
  rintro a w ⟨hfr, i, ts, hin, e0, e3, e35, e36, e37, hlen, hts, hrow, hbel⟩
  obtain ⟨xs, rfl, hx⟩ := hfr.lit
  have x0 := hx 0 _ (by omega) e0
  have x3 := hx 3 _ (by omega) e3
  have x35 := hx 35 _ (by omega) e35
  have x36 := hx 36 _ (by omega) e36
  have x37 := hx 37 _ (by omega) e37
  clear hx e0 e3 e35 e36 e37 hfr
  simp only [fr, x0, x3, x35, x36, x37]
  clear x0 x3 x35 x36 x37
  have HP := Lib.hid hP
  have HR := Lib.hid hR
  have HLF := Lib.hid hlf
  have HTS := Lib.hid hts
  have HB := Lib.hid hbel
  have HT := Lib.hid hT
  clear hP hR hlf hts hbel hT
  by_cases hi : i < n
  · have hii : (i : Int) < (n : Int) := by omega
    go_upto_block 1 with fail
    have hb0 : Below w0.heap.size w0 w := by rw [← HT.out]; exact HB.out
    refine wp_mono (leaf_any rfl (fun a' W' => Fr a' ∧ a'.tmps[0]? = some (.slice (some ⟨b, 0, none⟩) n cap) ∧ a'.tmps[3]? = some (.slice (some ⟨T, 0, none⟩) n n) ∧ a'.tmps[35]? = some (.slice (some ⟨b, 0, none⟩) n cap) ∧ a'.tmps[36]? = some (.int .i64 n) ∧ a'.tmps[37]? = some (.int .i64 i) ∧
      (∃ t, lf i = some t ∧ Row W' (T < ·) T n (ts ++ [t])) ∧ Below T w W') r _ w b n cap i T tk ts ⟨rfl, rfl⟩ rfl rfl rfl rfl rfl hn hi (htk.below hb0) hrow hlen (lf i) ((HLF.out i hi).later hb0)
      (fun t ht a' W' h0 h1 h2 h3 h4 h5 h6 h7 => ⟨h0, h1, h2, h3, h4, h5, ⟨t, ht, h6⟩, h7⟩) (fun ho a' W' h0 h1 h2 => HR.out a' W' i hi ho h0 h1 (HB.out.trans h2))) ?_
    intro e a' W' h
    cases e with
    | normal =>
      obtain ⟨hfr, e0, e3, e35, e36, e37, ⟨t, ht, hr⟩, hb⟩ := h
      obtain ⟨xs, rfl, hx⟩ := hfr.lit
      have x0 := hx 0 _ (by omega) e0
      have x3 := hx 3 _ (by omega) e3
      have x35 := hx 35 _ (by omega) e35
      have x36 := hx 36 _ (by omega) e36
      have x37 := hx 37 _ (by omega) e37
      clear hx e0 e3 e35 e36 e37 hfr
      simp only [fr, x0, x3, x35, x36, x37]
      clear x0 x3 x35 x36 x37
      have HTT := Lib.hid ht
      have HB2 := Lib.hid hb
      clear ht hb hb0
      go_wp2_with fail
      refine ⟨⟨⟨rfl, rfl⟩, i + 1, ts ++ [t], by omega, rfl, rfl, rfl, rfl, rfl, by rw [List.length_append, hlen]; rfl, fun j hj => ?_, hr, HB.out.trans HB2.out⟩, ?_⟩
      · rcases Nat.lt_or_ge j i with h | h
        · rw [HTS.out j h, List.getD_eq_getElem?_getD, List.getD_eq_getElem?_getD, List.getElem?_append_left (by omega)]
        · obtain rfl : j = i := by omega
          rw [HTT.out, List.getD_eq_getElem?_getD, List.getElem?_append_right (by omega), hlen, Nat.sub_self]
          rfl
      · show n - (i + 1) < n - i
        omega
    | ret => exact h
    | _ => exact h.elim
  · obtain rfl : i = n := by omega
    go_wp2_with fail
    exact HP.out _ _ ts hlen HTS.out ⟨rfl, rfl⟩ rfl hrow HB.out

set_option maxHeartbeats 4000000 in
set_option maxRecDepth 100000 in
/-- The whole function. -/
theorem parse_any (w : World) (b n cap : Nat) (tk : Nat → TK) (lf : Nat → Option CT) (hn : n ≤ 4096) (htk : Toks w b n tk) (hlf : ∀ i, i < n → LeafOk w (tk i) (badAt tk n i) (lf i)) :
    Calls Tryz.prog 30 #[.slice (some ⟨b, 0, none⟩) n cap] w (Ans w (parseOf n lf)) := by
  have hmk := make_terms n (by omega)
  go_enter Tryz.func30, Tryz.ntmps30
  go_upto_block 0 with fail
  obtain ⟨W1, eW⟩ : ∃ W1, W1 = w.alloc (.cells (madeCells #[.nilIface, .int .i32 0] (n * 2)) 92) := ⟨_, rfl⟩
  have hr1 : Row W1 (w.heap.size < ·) w.heap.size n [] := by rw [eW]; exact Row.made w n _ (Nat.lt_irrefl _)
  have hb1 : Below w.heap.size w W1 := by rw [eW]; exact (Below.refl _ _).alloc (Nat.le_refl _) _
  rw [← eW]
  clear eW hmk
  obtain ⟨T, eT⟩ : ∃ T, T = w.heap.size := ⟨_, rfl⟩
  rw [← eT] at hr1 hb1 ⊢
  refine wp_mono (fill_wp rfl (fun a' W' => ∃ ts, ts.length = n ∧ (∀ j, j < n → lf j = some (ts.getD j dT)) ∧ Fr a' ∧ a'.tmps[3]? = some (.slice (some ⟨T, 0, none⟩) n n) ∧ Row W' (T < ·) T n ts ∧ Below T w W')
    (fun a' W' => (∃ j, j < n ∧ lf j = none) ∧ Fr a' ∧ a'.tmps[2]? = some .nilIface ∧ Below T w W') _ W1 w b n cap T tk lf ⟨rfl, rfl⟩ rfl rfl rfl rfl rfl hn eT htk hb1 hr1 hlf
    (fun a' W' ts h1 h2 h3 h4 h5 h6 => ⟨ts, h1, h2, h3, h4, h5, h6⟩) (fun a' W' j h1 h2 h3 h4 h5 => ⟨⟨j, h1, h2⟩, h3, h4, h5⟩)) ?_
  clear hr1 hb1 htk hlf
  intro e a' W2 h
  cases e with
  | normal =>
    obtain ⟨ts, hlen, hts, hfr, e3, hr2, hb2⟩ := h
    obtain ⟨xs, rfl, hx⟩ := hfr.lit
    have x3 := hx 3 _ (by omega) e3
    clear hx e3 hfr
    simp only [fr, x3]
    clear x3
    have HPO := Lib.hid (parse_all hlen hts)
    have HB2 := Lib.hid hb2
    have HET := Lib.hid eT
    have HLN := Lib.hid hlen.symm
    clear hts hb2 eT hlen
    go_upto_block 2 with fail
    refine wp_mono (mul_wp rfl _ W2 T n ts ⟨rfl, rfl⟩ (by rw [← HLN.out]; rfl) rfl hn hr2) ?_
    clear hr2
    intro e a' W3 h
    cases e with
    | normal =>
      obtain ⟨hfr, e3, hr3, hb3⟩ := h
      obtain ⟨xs, rfl, hx⟩ := hfr.lit
      have x3 := hx 3 _ (by omega) e3
      clear hx e3 hfr
      simp only [fr, x3]
      clear x3
      have HB3 := Lib.hid hb3
      clear hb3
      go_upto_block 8 with fail
      refine wp_mono (add_wp rfl _ W3 T n (mulPass 1 (Nat.le_refl 1) ts) ⟨rfl, rfl⟩ rfl rfl hn hr3) ?_
      clear hr3
      intro e a' W4 h
      cases e with
      | normal =>
        obtain ⟨hfr, e3, hr4, hb4⟩ := h
        obtain ⟨xs, rfl, hx⟩ := hfr.lit
        have x3 := hx 3 _ (by omega) e3
        clear hx e3 hfr
        simp only [fr, x3]
        clear x3
        have HB4 : Hid (Below T w W4) := Lib.hid (HB2.out.trans (HB3.out.trans hb4))
        clear hb4
        obtain ⟨rs, ers⟩ : ∃ rs, rs = addPass 1 (Nat.le_refl 1) (mulPass 1 (Nat.le_refl 1) ts) := ⟨_, rfl⟩
        have hpo : parseOf n lf = if rs.length = 1 then some (rs.getD 0 dT) else none := by rw [HPO.out, ers]; rfl
        rw [← ers] at hr4 ⊢
        have HPP := Lib.hid hpo
        clear ers hpo
        by_cases h1 : rs.length = 1
        · obtain ⟨v, k, c0, c1, hv⟩ := hr4.cell 0 (by omega)
          rw [Nat.zero_mul] at c0
          have hrep : Rep W4 (w.heap.size ≤ ·) v (rs.getD 0 dT) := by
            rw [← HET.out]
            exact hv.weaken (fun b _ h => Nat.le_of_lt h)
          have HRP := Lib.hid hrep
          clear hrep hv c1
          go_wp2_with fail
          go_ret
          refine ⟨v, rfl, by rw [← HET.out]; exact HB4.out, ?_⟩
          rw [HPP.out, if_pos h1]
          exact HRP.out
        · have h1i : ((rs.length : Int) == 1) = false := by simp; omega
          go_wp2_with fail
          go_ret
          refine ⟨.nilIface, rfl, by rw [← HET.out]; exact HB4.out, ?_⟩
          rw [HPP.out, if_neg h1]
      | _ => exact h.elim
    | _ => exact h.elim
  | ret =>
    obtain ⟨⟨j, hj, hl⟩, hfr, e2, hb⟩ := h
    obtain ⟨xs, rfl, hx⟩ := hfr.lit
    have x2 := hx 2 _ (by omega) e2
    clear hx e2 hfr
    simp only [fr, x2]
    clear x2
    go_ret
    refine ⟨.nilIface, rfl, by rw [← eT]; exact hb, ?_⟩
    rw [parse_none hj hl]
  | _ => exact h.elim
end Go.Proofs.YthbfppnegodpoaaGreatDoor
