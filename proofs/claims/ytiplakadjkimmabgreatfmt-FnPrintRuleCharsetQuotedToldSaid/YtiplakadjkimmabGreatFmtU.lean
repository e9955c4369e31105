/-
  The law FnPrintRuleCharsetQuoted: printWithEscape with a backslash.
-/
import Derived.Test.YtiplakadjkimmabGreatFmtT
namespace Go.Proofs.YtiplakadjkimmabGreatFmt
open Go.RowKit Go.Deep Go.PlainAid

theorem Bel.alloc {B : Nat} {w w1 : World} (h : Bel B w w1) (hB : B ≤ w1.heap.size) (o : Obj) : Bel B w (w1.alloc o) :=
  ⟨h.1.alloc hB o, fun k cs e p hk hkB he hc => by
    have h1 := h.2 k cs e p hk hkB he hc
    rw [Below.heap_alloc _ _ _ (Array.getElem?_eq_some_iff.1 h1).1]
    exact h1⟩
theorem Bel.drew {B : Nat} {w w1 : World} (h : Bel B w w1) : Bel B w w1.drew := ⟨Below.drew h.1, fun k cs e p hk hkB he hc => h.2 k cs e p hk hkB he hc⟩
theorem Bel.setNew {B k i : Nat} {v : Value} {w w1 : World} (h : Bel B w w1) (hk : w.heap.size ≤ k) (hB : B ≤ k) : Bel B w (w1.setCell ⟨k, i, none⟩ v) :=
  ⟨h.1.setCell (show B ≤ (⟨k, i, none⟩ : Addr).block from hB) _, fun k' cs e p hk' hkB he hc => by
    rw [Below.heap_setCell _ _ _ _ (show k' ≠ k by omega)]
    exact h.2 k' cs e p hk' hkB he hc⟩
theorem Css.setCell {B : Nat} {mn : Bool} {ft : Nat} {l : List UInt8} {w : World} {k i : Nat} {cs : Array Value} {e : TypeId} {p : Nat × Nat} {v : Value} (h : Css B mn ft l w) (hk : w.heap[k]? = some (.cells cs e p)) (he : e ≠ 5) (hkB : k ≠ B) : Css B mn ft l (w.setCell ⟨k, i, none⟩ v) := by
  obtain ⟨ho, u, hc, hr⟩ := h
  have hB : B < w.heap.size := World.block_lt_of_cell? _ _ hc
  have hg := grown_set w k i v
  have hne : some B ≠ some k := fun e => hkB (Option.some.inj e).symm
  exact ⟨ho.far hg hne, u, (hg.cell_far ⟨B, 15, none⟩ hB hne).trans hc, hr.kept hg (.inr (own_other hr he hk).symm)⟩
theorem frozen_of {w : World} {k i : Nat} {cs : Array Value} {e : TypeId} (h : w.heap[k]? = some (.cells cs e (0, 0))) : w.frozen? ⟨k, i, none⟩ = false := by
  unfold World.frozen?
  rw [show w.heap[(⟨k, i, none⟩ : Addr).block]? = some (.cells cs e (0, 0)) from h]
  simp
theorem set_row {w : World} {k : Nat} {cs : Array Value} {e : TypeId} {p : Nat × Nat} {i : Nat} {v : Value} (h : w.heap[k]? = some (.cells cs e p)) (hi : i < cs.size) : (w.setCell ⟨k, i, none⟩ v).cell? ⟨k, i, none⟩ = some v :=
  World.cell?_setCell_same' _ _ _ (by
    have := cell_of_row w k i cs e p h
    rw [this, Array.getElem?_eq_getElem hi]; rfl)

set_option maxHeartbeats 4000000 in
set_option maxRecDepth 100000 in
theorem escape_any (B : Nat) (mn : Bool) (ft : Nat) (l : List UInt8) (c : UInt8) (t : ByteArray) (w : World) (h : Css B mn ft l w) (hl : l.length ≤ 35184372088832) (hc : c = 92 ∨ c = 34 ∨ c = 47) :
    Calls Tryz.prog 51 #[.pointer (some ⟨B, 0, none⟩), .int .i32 (c.toNat : Int), .int .u8 1, .string t, .bool false] w fun e w' => e = .returned (.tuple #[]) ∧ Hid (Css B mn ft (l ++ [92, c]) w') ∧ Hid (Bel B w w') := by
  obtain ⟨i0, hi0, hz0, hz1, hz2⟩ := info_parts info5
  have hBs := h.lt
  have HH := Lib.hid h
  clear h
  obtain ⟨x, hx⟩ : ∃ x : Int, x = (c.toNat : Int) := ⟨_, rfl⟩
  have hx3 : x = 92 ∨ x = 34 ∨ x = 47 := by
    rcases hc with rfl | rfl | rfl
    · exact .inl hx
    · exact .inr (.inl hx)
    · exact .inr (.inr hx)
  rw [← hx]
  have HX := Lib.hid hx
  clear hx hc
  have HT := Lib.hid (blk_alloc_new w (.cells #[.int .u8 0, .int .u8 0, .int .u8 0, .int .u8 0] 286))
  have HB0 := Lib.hid ((Bel.refl B w).alloc (Nat.le_of_lt hBs) (.cells #[.int .u8 0, .int .u8 0, .int .u8 0, .int .u8 0] 286))
  have HC0 := Lib.hid (HH.out.alloc (.cells #[.int .u8 0, .int .u8 0, .int .u8 0, .int .u8 0] 286))
  obtain ⟨T, eT⟩ : ∃ T, T = w.heap.size := ⟨_, rfl⟩
  have hTB : B < T := by omega
  rw [← eT] at HT
  have HeT := Lib.hid eT
  rcases hx3 with rfl | rfl | rfl
  · go_enter Tryz.func51, Tryz.ntmps51
    go_upto_region 8 with fail
    rw [← eT]
    clear eT
    obtain ⟨W0, e0⟩ : ∃ W0, W0 = w.alloc (.cells #[.int .u8 0, .int .u8 0, .int .u8 0, .int .u8 0] 286) := ⟨_, rfl⟩
    rw [← e0] at HT HB0 HC0 ⊢
    clear e0
    have HCa := fun o => Lib.hid (HC0.out.alloc o)
    have hB0 := HC0.out.lt
    obtain ⟨ho, v, hc15, hrow⟩ := HC0.out
    have hf := fun o => (HCa o).out.1.2.2.2
    have hca := fun o => (cell_alloc_old (w := W0) (o := o) (i := 15) hB0).trans hc15
    have HR := fun o => Lib.hid (hrow.alloc o)
    have HN := Lib.hid (own_ne hrow (Nat.lt_succ_self B))
    have hone : ∀ u ∈ [Value.int .u8 92], u.oneCell' = true := by decide
    clear ho hrow
    go_wp2_with (first | (refine wpList_append_lies _ rfl (.tmp 63) (.tmp 64) 31 rfl (B + 1) 5 i0 (.int .u8 0) 1 1 Tryz.underlying31 hi0 hz0 hz1 hz2 rfl (by decide) v l.length (bv l) rfl (HR _).out ⟨W0.heap.size, 0, none⟩ 1 1 [.int .u8 92] rfl rfl (cell_one_new _ _ _) hone (by decide) (by unfold maxLen; omega) (by omega) (by rw [World.size_alloc]; omega) _ rfl ?_; intro g cap w1 hown1 hgrow1 _ _; have HOW := Lib.hid (And.intro hown1 hgrow1); have q15 := (hgrow1.cell_far ⟨B, 15, none⟩ (by rw [World.size_alloc]; exact Nat.lt_succ_of_lt hB0) HN.out).trans (hca _); have qf := (hgrow1.frozen_far ⟨B, 15, none⟩ (by rw [World.size_alloc]; exact Nat.lt_succ_of_lt hB0) HN.out).trans (hf _); clear hown1 hgrow1) | fail)
    have hg := HOW.out.2
    have hfin := css_app (l2 := [92]) (HCa _).out.1 (hca _) (HR _).out hg (n := l.length + 1) (by rw [List.length_append]; rfl) (xs := bv l ++ [.int .u8 92]) (by rw [bv_append]; rfl) HOW.out.1
    obtain ⟨W1, e1⟩ : ∃ W1, W1 = w1.setCell ⟨B, 15, none⟩ (.slice (some ⟨g, 0, none⟩) (l.length + 1) cap) := ⟨_, rfl⟩
    rw [← e1] at hfin ⊢
    have HC1 := Lib.hid hfin.1
    have HB1 := Lib.hid (hfin.2 W0 ((Bel.refl B W0).alloc (Nat.le_of_lt hB0) _))
    have HT1 := Lib.hid (HB1.out.2 T _ 286 (0, 0) (Array.getElem?_eq_some_iff.1 HT.out).1 (by omega) (by decide) HT.out)
    clear hfin e1 hg HOW q15 qf hf hca HR HN hc15 HCa
    obtain ⟨W2, e2⟩ : ∃ W2, W2 = W1.setCell ⟨T, 0, none⟩ (.int .u8 92) := ⟨_, rfl⟩
    have HC2 : Hid (Css B mn ft (l ++ [92]) W2) := by show Css _ _ _ _ _; rw [e2]; exact HC1.out.setCell HT1.out (by decide) (by omega)
    have HB2 : Hid (Bel B w W2) := by show Bel _ _ _; rw [e2]; exact (HB0.out.trans HB1.out).setNew (Nat.le_of_eq HeT.out.symm) (by omega)
    have hxn : W2.cell? ⟨T, 0, none⟩ = some (.int .u8 92) := by rw [e2]; exact set_row HT1.out (by decide)
    refine (encode_any T 4 4 _ W1 (by decide) (by decide) (by decide) (cell_of_row W1 T 0 _ 286 (0, 0) HT1.out) (frozen_of HT1.out)).mono ?_
    rintro e w' ⟨rfl, ew⟩
    rw [← e2] at ew
    subst ew
    clear e2 HC1 HB1 HT1
    have hB2 := HC2.out.lt
    obtain ⟨L1, eL⟩ : ∃ L1, L1 = l ++ [(92 : UInt8)] := ⟨_, rfl⟩
    have hlen : L1.length = l.length + 1 := by rw [eL, List.length_append]; rfl
    rw [← eL] at HC2
    have HL1 := Lib.hid eL
    clear eL
    obtain ⟨ho, v, hc15, hrow⟩ := HC2.out
    have hf := ho.2.2.2
    have HN := Lib.hid (own_ne hrow (Nat.lt_succ_self B))
    have hone : ∀ u ∈ [(Value.int .u8 92)], u.oneCell' = true := by decide
    have hnews : ∀ j u, [(Value.int .u8 92)][j]? = some u → w'.cell? ((⟨T, 0, none⟩ : Addr).add j) = some u := fun j u hj => by
      rcases j with _ | j
      · cases hj
        exact hxn
      · cases hj
    have HRd : Hid (w'.drew.ownsRow (B + 1) 5 1 v L1.length (bv L1)) := hrow
    have HOd : Hid (Opt B mn ft w'.drew) := ho
    clear ho hrow
    go_upto_region 10 with fail
    go_region_law (first
      | (refine step_append_lies _ rfl (.tmp 75) (.tmp 77) 31 rfl (B + 1) 5 i0 (.int .u8 0) 1 1 Tryz.underlying31 hi0 hz0 hz1 hz2 rfl (by decide) v L1.length (bv L1) rfl HRd.out ⟨T, 0, none⟩ 1 4 [(Value.int .u8 92)] rfl rfl hnews hone (by decide) (by rw [hlen]; unfold maxLen; omega) (by rw [hlen]; omega) (by show B + 1 ≤ w'.heap.size; omega) _ rfl ?_
         intro g cap w3 hown3 hgrow3 _ _
         have q15 : w3.cell? ⟨B, 15, none⟩ = some v := (hgrow3.cell_far ⟨B, 15, none⟩ hB2 HN.out).trans hc15
         have qf : w3.frozen? ⟨B, 15, none⟩ = false := (hgrow3.frozen_far ⟨B, 15, none⟩ hB2 HN.out).trans hf))
    all_goals
      go_wp2_with fail
      refine bodyPost_end (v := .tuple #[]) (by simp [results, Tryz.results51, go_sem]) rfl ?_
      have hfin := css_app (w := w'.drew) (l2 := [c]) HOd.out hc15 HRd.out hgrow3 (n := L1.length + 1) (by rw [List.length_append]; rfl) (xs := bv L1 ++ [(Value.int .u8 92)]) (by rw [bv_append]; show _ = _ ++ [Value.int .u8 (c.toNat : Int)]; rw [← HX.out]) hown3
      have e : l ++ [92, c] = L1 ++ [c] := by rw [HL1.out, List.append_assoc]; rfl
      rw [hlen] at hfin
      refine ⟨rfl, ?_, hfin.2 w HB2.out.drew⟩
      show Css _ _ _ _ _
      rw [e]
      exact hfin.1
  · go_enter Tryz.func51, Tryz.ntmps51
    go_upto_region 8 with fail
    rw [← eT]
    clear eT
    obtain ⟨W0, e0⟩ : ∃ W0, W0 = w.alloc (.cells #[.int .u8 0, .int .u8 0, .int .u8 0, .int .u8 0] 286) := ⟨_, rfl⟩
    rw [← e0] at HT HB0 HC0 ⊢
    clear e0
    have HCa := fun o => Lib.hid (HC0.out.alloc o)
    have hB0 := HC0.out.lt
    obtain ⟨ho, v, hc15, hrow⟩ := HC0.out
    have hf := fun o => (HCa o).out.1.2.2.2
    have hca := fun o => (cell_alloc_old (w := W0) (o := o) (i := 15) hB0).trans hc15
    have HR := fun o => Lib.hid (hrow.alloc o)
    have HN := Lib.hid (own_ne hrow (Nat.lt_succ_self B))
    have hone : ∀ u ∈ [Value.int .u8 92], u.oneCell' = true := by decide
    clear ho hrow
    go_wp2_with (first | (refine wpList_append_lies _ rfl (.tmp 63) (.tmp 64) 31 rfl (B + 1) 5 i0 (.int .u8 0) 1 1 Tryz.underlying31 hi0 hz0 hz1 hz2 rfl (by decide) v l.length (bv l) rfl (HR _).out ⟨W0.heap.size, 0, none⟩ 1 1 [.int .u8 92] rfl rfl (cell_one_new _ _ _) hone (by decide) (by unfold maxLen; omega) (by omega) (by rw [World.size_alloc]; omega) _ rfl ?_; intro g cap w1 hown1 hgrow1 _ _; have HOW := Lib.hid (And.intro hown1 hgrow1); have q15 := (hgrow1.cell_far ⟨B, 15, none⟩ (by rw [World.size_alloc]; exact Nat.lt_succ_of_lt hB0) HN.out).trans (hca _); have qf := (hgrow1.frozen_far ⟨B, 15, none⟩ (by rw [World.size_alloc]; exact Nat.lt_succ_of_lt hB0) HN.out).trans (hf _); clear hown1 hgrow1) | fail)
    have hg := HOW.out.2
    have hfin := css_app (l2 := [92]) (HCa _).out.1 (hca _) (HR _).out hg (n := l.length + 1) (by rw [List.length_append]; rfl) (xs := bv l ++ [.int .u8 92]) (by rw [bv_append]; rfl) HOW.out.1
    obtain ⟨W1, e1⟩ : ∃ W1, W1 = w1.setCell ⟨B, 15, none⟩ (.slice (some ⟨g, 0, none⟩) (l.length + 1) cap) := ⟨_, rfl⟩
    rw [← e1] at hfin ⊢
    have HC1 := Lib.hid hfin.1
    have HB1 := Lib.hid (hfin.2 W0 ((Bel.refl B W0).alloc (Nat.le_of_lt hB0) _))
    have HT1 := Lib.hid (HB1.out.2 T _ 286 (0, 0) (Array.getElem?_eq_some_iff.1 HT.out).1 (by omega) (by decide) HT.out)
    clear hfin e1 hg HOW q15 qf hf hca HR HN hc15 HCa
    obtain ⟨W2, e2⟩ : ∃ W2, W2 = W1.setCell ⟨T, 0, none⟩ (.int .u8 34) := ⟨_, rfl⟩
    have HC2 : Hid (Css B mn ft (l ++ [92]) W2) := by show Css _ _ _ _ _; rw [e2]; exact HC1.out.setCell HT1.out (by decide) (by omega)
    have HB2 : Hid (Bel B w W2) := by show Bel _ _ _; rw [e2]; exact (HB0.out.trans HB1.out).setNew (Nat.le_of_eq HeT.out.symm) (by omega)
    have hxn : W2.cell? ⟨T, 0, none⟩ = some (.int .u8 34) := by rw [e2]; exact set_row HT1.out (by decide)
    refine (encode_any T 4 4 _ W1 (by decide) (by decide) (by decide) (cell_of_row W1 T 0 _ 286 (0, 0) HT1.out) (frozen_of HT1.out)).mono ?_
    rintro e w' ⟨rfl, ew⟩
    rw [← e2] at ew
    subst ew
    clear e2 HC1 HB1 HT1
    have hB2 := HC2.out.lt
    obtain ⟨L1, eL⟩ : ∃ L1, L1 = l ++ [(92 : UInt8)] := ⟨_, rfl⟩
    have hlen : L1.length = l.length + 1 := by rw [eL, List.length_append]; rfl
    rw [← eL] at HC2
    have HL1 := Lib.hid eL
    clear eL
    obtain ⟨ho, v, hc15, hrow⟩ := HC2.out
    have hf := ho.2.2.2
    have HN := Lib.hid (own_ne hrow (Nat.lt_succ_self B))
    have hone : ∀ u ∈ [(Value.int .u8 34)], u.oneCell' = true := by decide
    have hnews : ∀ j u, [(Value.int .u8 34)][j]? = some u → w'.cell? ((⟨T, 0, none⟩ : Addr).add j) = some u := fun j u hj => by
      rcases j with _ | j
      · cases hj
        exact hxn
      · cases hj
    have HRd : Hid (w'.drew.ownsRow (B + 1) 5 1 v L1.length (bv L1)) := hrow
    have HOd : Hid (Opt B mn ft w'.drew) := ho
    clear ho hrow
    go_upto_region 10 with fail
    go_region_law (first
      | (refine step_append_lies _ rfl (.tmp 75) (.tmp 77) 31 rfl (B + 1) 5 i0 (.int .u8 0) 1 1 Tryz.underlying31 hi0 hz0 hz1 hz2 rfl (by decide) v L1.length (bv L1) rfl HRd.out ⟨T, 0, none⟩ 1 4 [(Value.int .u8 34)] rfl rfl hnews hone (by decide) (by rw [hlen]; unfold maxLen; omega) (by rw [hlen]; omega) (by show B + 1 ≤ w'.heap.size; omega) _ rfl ?_
         intro g cap w3 hown3 hgrow3 _ _
         have q15 : w3.cell? ⟨B, 15, none⟩ = some v := (hgrow3.cell_far ⟨B, 15, none⟩ hB2 HN.out).trans hc15
         have qf : w3.frozen? ⟨B, 15, none⟩ = false := (hgrow3.frozen_far ⟨B, 15, none⟩ hB2 HN.out).trans hf))
    all_goals
      go_wp2_with fail
      refine bodyPost_end (v := .tuple #[]) (by simp [results, Tryz.results51, go_sem]) rfl ?_
      have hfin := css_app (w := w'.drew) (l2 := [c]) HOd.out hc15 HRd.out hgrow3 (n := L1.length + 1) (by rw [List.length_append]; rfl) (xs := bv L1 ++ [(Value.int .u8 34)]) (by rw [bv_append]; show _ = _ ++ [Value.int .u8 (c.toNat : Int)]; rw [← HX.out]) hown3
      have e : l ++ [92, c] = L1 ++ [c] := by rw [HL1.out, List.append_assoc]; rfl
      rw [hlen] at hfin
      refine ⟨rfl, ?_, hfin.2 w HB2.out.drew⟩
      show Css _ _ _ _ _
      rw [e]
      exact hfin.1
  · go_enter Tryz.func51, Tryz.ntmps51
    go_upto_region 8 with fail
    rw [← eT]
    clear eT
    obtain ⟨W0, e0⟩ : ∃ W0, W0 = w.alloc (.cells #[.int .u8 0, .int .u8 0, .int .u8 0, .int .u8 0] 286) := ⟨_, rfl⟩
    rw [← e0] at HT HB0 HC0 ⊢
    clear e0
    have HCa := fun o => Lib.hid (HC0.out.alloc o)
    have hB0 := HC0.out.lt
    obtain ⟨ho, v, hc15, hrow⟩ := HC0.out
    have hf := fun o => (HCa o).out.1.2.2.2
    have hca := fun o => (cell_alloc_old (w := W0) (o := o) (i := 15) hB0).trans hc15
    have HR := fun o => Lib.hid (hrow.alloc o)
    have HN := Lib.hid (own_ne hrow (Nat.lt_succ_self B))
    have hone : ∀ u ∈ [Value.int .u8 92], u.oneCell' = true := by decide
    clear ho hrow
    go_wp2_with (first | (refine wpList_append_lies _ rfl (.tmp 63) (.tmp 64) 31 rfl (B + 1) 5 i0 (.int .u8 0) 1 1 Tryz.underlying31 hi0 hz0 hz1 hz2 rfl (by decide) v l.length (bv l) rfl (HR _).out ⟨W0.heap.size, 0, none⟩ 1 1 [.int .u8 92] rfl rfl (cell_one_new _ _ _) hone (by decide) (by unfold maxLen; omega) (by omega) (by rw [World.size_alloc]; omega) _ rfl ?_; intro g cap w1 hown1 hgrow1 _ _; have HOW := Lib.hid (And.intro hown1 hgrow1); have q15 := (hgrow1.cell_far ⟨B, 15, none⟩ (by rw [World.size_alloc]; exact Nat.lt_succ_of_lt hB0) HN.out).trans (hca _); have qf := (hgrow1.frozen_far ⟨B, 15, none⟩ (by rw [World.size_alloc]; exact Nat.lt_succ_of_lt hB0) HN.out).trans (hf _); clear hown1 hgrow1) | fail)
    have hg := HOW.out.2
    have hfin := css_app (l2 := [92]) (HCa _).out.1 (hca _) (HR _).out hg (n := l.length + 1) (by rw [List.length_append]; rfl) (xs := bv l ++ [.int .u8 92]) (by rw [bv_append]; rfl) HOW.out.1
    obtain ⟨W1, e1⟩ : ∃ W1, W1 = w1.setCell ⟨B, 15, none⟩ (.slice (some ⟨g, 0, none⟩) (l.length + 1) cap) := ⟨_, rfl⟩
    rw [← e1] at hfin ⊢
    have HC1 := Lib.hid hfin.1
    have HB1 := Lib.hid (hfin.2 W0 ((Bel.refl B W0).alloc (Nat.le_of_lt hB0) _))
    have HT1 := Lib.hid (HB1.out.2 T _ 286 (0, 0) (Array.getElem?_eq_some_iff.1 HT.out).1 (by omega) (by decide) HT.out)
    clear hfin e1 hg HOW q15 qf hf hca HR HN hc15 HCa
    obtain ⟨W2, e2⟩ : ∃ W2, W2 = W1.setCell ⟨T, 0, none⟩ (.int .u8 47) := ⟨_, rfl⟩
    have HC2 : Hid (Css B mn ft (l ++ [92]) W2) := by show Css _ _ _ _ _; rw [e2]; exact HC1.out.setCell HT1.out (by decide) (by omega)
    have HB2 : Hid (Bel B w W2) := by show Bel _ _ _; rw [e2]; exact (HB0.out.trans HB1.out).setNew (Nat.le_of_eq HeT.out.symm) (by omega)
    have hxn : W2.cell? ⟨T, 0, none⟩ = some (.int .u8 47) := by rw [e2]; exact set_row HT1.out (by decide)
    refine (encode_any T 4 4 _ W1 (by decide) (by decide) (by decide) (cell_of_row W1 T 0 _ 286 (0, 0) HT1.out) (frozen_of HT1.out)).mono ?_
    rintro e w' ⟨rfl, ew⟩
    rw [← e2] at ew
    subst ew
    clear e2 HC1 HB1 HT1
    have hB2 := HC2.out.lt
    obtain ⟨L1, eL⟩ : ∃ L1, L1 = l ++ [(92 : UInt8)] := ⟨_, rfl⟩
    have hlen : L1.length = l.length + 1 := by rw [eL, List.length_append]; rfl
    rw [← eL] at HC2
    have HL1 := Lib.hid eL
    clear eL
    obtain ⟨ho, v, hc15, hrow⟩ := HC2.out
    have hf := ho.2.2.2
    have HN := Lib.hid (own_ne hrow (Nat.lt_succ_self B))
    have hone : ∀ u ∈ [(Value.int .u8 47)], u.oneCell' = true := by decide
    have hnews : ∀ j u, [(Value.int .u8 47)][j]? = some u → w'.cell? ((⟨T, 0, none⟩ : Addr).add j) = some u := fun j u hj => by
      rcases j with _ | j
      · cases hj
        exact hxn
      · cases hj
    have HRd : Hid (w'.drew.ownsRow (B + 1) 5 1 v L1.length (bv L1)) := hrow
    have HOd : Hid (Opt B mn ft w'.drew) := ho
    clear ho hrow
    go_upto_region 10 with fail
    go_region_law (first
      | (refine step_append_lies _ rfl (.tmp 75) (.tmp 77) 31 rfl (B + 1) 5 i0 (.int .u8 0) 1 1 Tryz.underlying31 hi0 hz0 hz1 hz2 rfl (by decide) v L1.length (bv L1) rfl HRd.out ⟨T, 0, none⟩ 1 4 [(Value.int .u8 47)] rfl rfl hnews hone (by decide) (by rw [hlen]; unfold maxLen; omega) (by rw [hlen]; omega) (by show B + 1 ≤ w'.heap.size; omega) _ rfl ?_
         intro g cap w3 hown3 hgrow3 _ _
         have q15 : w3.cell? ⟨B, 15, none⟩ = some v := (hgrow3.cell_far ⟨B, 15, none⟩ hB2 HN.out).trans hc15
         have qf : w3.frozen? ⟨B, 15, none⟩ = false := (hgrow3.frozen_far ⟨B, 15, none⟩ hB2 HN.out).trans hf))
    all_goals
      go_wp2_with fail
      refine bodyPost_end (v := .tuple #[]) (by simp [results, Tryz.results51, go_sem]) rfl ?_
      have hfin := css_app (w := w'.drew) (l2 := [c]) HOd.out hc15 HRd.out hgrow3 (n := L1.length + 1) (by rw [List.length_append]; rfl) (xs := bv L1 ++ [(Value.int .u8 47)]) (by rw [bv_append]; show _ = _ ++ [Value.int .u8 (c.toNat : Int)]; rw [← HX.out]) hown3
      have e : l ++ [92, c] = L1 ++ [c] := by rw [HL1.out, List.append_assoc]; rfl
      rw [hlen] at hfin
      refine ⟨rfl, ?_, hfin.2 w HB2.out.drew⟩
      show Css _ _ _ _ _
      rw [e]
      exact hfin.1
end Go.Proofs.YtiplakadjkimmabGreatFmt
