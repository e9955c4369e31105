/-
  The law FnPrintEndOfFileCommentsDeduplicated: its walk.
-/
import Derived.Test.YtiplakadjkimmabGreatFmtF
import Derived.BigQuiet
import Derived.Deep.OwnRows
namespace Go.Proofs.YtiplakadjkimmabGreatFmt
open Go.RowKit Go.Deep Go.Maps

theorem Slc.at {α : Type} {f : α → Value} {d : α} {w : World} {b off : Nat} {xs : List α} (h : Slc f d w (some ⟨b, off, none⟩) xs) {i : Nat} (hi : i < xs.length) : w.cell? ⟨b, off + i, none⟩ = some (f (xs.getD i d)) := by
  obtain ⟨b', o', e, hc⟩ := h i hi
  cases e
  exact hc

/-- The texts that were extracted are read as a slice. -/
theorem slc_of_owns {w : World} {B : Nat} {v : Value} {l : List ByteArray} (h : w.ownsRow B 9 1 v l.length (l.map Value.string)) : ∃ sa sm, v = .slice sa l.length sm ∧ Slc Value.string ByteArray.empty w sa l := by
  have hh := h
  rcases h.2 with ⟨hv, h0⟩ | ⟨g, cap, cur, hv, _⟩
  · exact ⟨none, 0, by rw [hv, h0], fun i hi => absurd hi (by omega)⟩
  · subst hv
    refine ⟨_, _, rfl, fun i hi => ⟨g, 0, rfl, ?_⟩⟩
    rw [Nat.zero_add, hh.cellAt i (by omega)]
    simp [List.getD_eq_getElem?_getD, hi]

theorem getD_snoc (l : List ByteArray) (x : ByteArray) (j : Nat) : (l ++ [x]).getD j ByteArray.empty = if j = l.length then x else l.getD j ByteArray.empty := by
  rcases Nat.lt_trichotomy j l.length with h | h | h
  · rw [if_neg (by omega)]
    simp [List.getD_eq_getElem?_getD, List.getElem?_append_left h]
  · subst h
    simp [List.getD_eq_getElem?_getD]
  · rw [if_neg (by omega)]
    simp only [List.getD_eq_getElem?_getD]
    rw [List.getElem?_eq_none (by simp; omega), List.getElem?_eq_none (by omega)]

theorem toList_inj {a b : ByteArray} (h : a.toList = b.toList) : a = b := by
  rw [ByteArray.toList_eq, ByteArray.toList_eq] at h
  cases a; cases b
  simp only at h
  rw [Array.toList_inj.1 h]

theorem inB_at {l : List ByteArray} {x : ByteArray} {q : Nat} (h : q < l.length) (e : l.getD q ByteArray.empty = x) : inB l x = true := by
  rw [inB_iff, ← e, List.getD_eq_getElem?_getD, List.getElem?_eq_getElem h]
  exact List.getElem_mem h
theorem inB_none {l : List ByteArray} {x : ByteArray} (h : ∀ q, q < l.length → l.getD q ByteArray.empty ≠ x) : inB l x = false := by
  cases hb : inB l x
  · rfl
  · rw [inB_iff] at hb
    obtain ⟨q, hq, e⟩ := List.mem_iff_getElem.1 hb
    exact absurd (by rw [List.getD_eq_getElem?_getD, List.getElem?_eq_getElem hq]; exact e) (h q hq)

set_option maxHeartbeats 4000000 in
set_option maxRecDepth 100000 in
theorem law5 (a0 : Option Addr) (n c0 : Nat) (us : List ByteArray) (w : World) (hl : us.length = n)
    (h17 : Calls Tryz.prog 17 #[.slice a0 n c0] w (SomeBool (fun b => b = true → n ≤ 1048576 ∧ ∀ i, i < n → (us.getD i ByteArray.empty).size ≤ 1048576) w))
    (h18 : n ≤ 4096 → (∀ i, i < n → (us.getD i ByteArray.empty).size ≤ 1048576) → Calls Tryz.prog 18 #[.slice a0 n c0] w (SomeInt (fun _ => True) w))
    (h19 : n ≤ 1048576 → Calls Tryz.prog 19 #[.slice a0 n c0] w fun e w' => ∃ a' c', e = .returned (.slice a' n c') ∧ Hid (Slc Value.string ByteArray.empty w' a' us) ∧ Hid (Below w.heap.size w w')) :
    Calls Tryz.prog 5 #[.slice a0 n c0] w fun e w' => e = .returned (.bool true) ∧ Below w.heap.size w w' := by
  have HL := Lib.hid hl
  have H17 := Lib.hid h17
  have H18 := Lib.hid h18
  have H19 := Lib.hid h19
  clear hl h17 h18 h19
  go_enter Tryz.func5, Tryz.ntmps5
  go_wp2_with fail
  refine H17.out.mono ?_
  rintro e w' ⟨b, hb, rfl, rfl⟩
  have HB := Lib.hid hb
  clear hb
  cases b
  · go_wp2_with fail
    go_ret
    exact ⟨rfl, Below.refl _ _⟩
  obtain ⟨hn20, hs20⟩ := HB.out rfl
  have HS := Lib.hid hs20
  clear hs20 HB
  by_cases hbig : 4096 < n
  · have hbig' : (4096 : Int) < (n : Int) := by omega
    go_wp2_with fail
    go_ret
    exact ⟨rfl, Below.refl _ _⟩
  have hbig' : ¬ (4096 : Int) < (n : Int) := by omega
  have hn : n ≤ 4096 := by omega
  go_wp2_with fail
  refine (H18.out hn HS.out).mono ?_
  rintro e w' ⟨z, _, rfl, rfl⟩
  by_cases hz : (1048576 : Int) < z
  · go_wp2_with fail
    go_ret
    exact ⟨rfl, Below.refl _ _⟩
  go_wp2_with fail
  refine (H19.out hn20).mono ?_
  rintro e w1 ⟨a1, c1, rfl, HU1, HB1⟩
  have h20 := tree_any a1 c1 n us w1 hn HL.out HU1.out
  have H20 := Lib.hid h20
  clear h20
  go_wp2_with fail
  refine H20.out.mono ?_
  rintro e w2 ⟨T, R, rfl, hT, hC, hB2⟩
  have hTl : T < w2.heap.size := by
    obtain ⟨cur, hh, _⟩ := hT
    exact (Array.getElem?_eq_some_iff.1 hh).1
  have h2' := fun o => heap_alloc_new w2 o
  have hsz : ∀ v, (Tryz.prog.info? 52).map (·.size) = some (treeV v).size := fun v => info52
  have h65 : ∀ v : Value, (Tryz.prog.info? 65).map (·.size) = some (resV v).size := fun v => info65
  have hb3 : ∀ o cs, Below w2.heap.size w2 ((w2.alloc o).setRow w2.heap.size cs) := fun o cs => below_setRow ((Below.refl _ _).alloc (Nat.le_refl _) _) (Nat.le_refl _) _
  have hP := fun o cs => print_any T n R us ((w2.alloc o).setRow w2.heap.size cs) hn HL.out HS.out
    (by obtain ⟨cur, hh, h3⟩ := hT; exact ⟨cur, ((hb3 o cs).block T hTl).trans hh, h3⟩) (hC.below (hb3 o cs))
  have HE := Lib.hid (And.intro h2' (And.intro hsz (And.intro h65 (And.intro hb3 hP))))
  have HU2 := Lib.hid (HU1.out.below hB2)
  have HB2 := Lib.hid (HB1.out.trans (hB2.mono HB1.out.size))
  clear h2' hsz h65 hb3 hP hT hC hB2 H20 hTl
  go_upto_region 7 with (first | (refine wpList_store_row rfl 52 (.tmp 3) (.tmp 24) rfl w2.heap.size (treeV (.slice (some ⟨T, 0, none⟩) n n)) rfl rfl 52 _ (HE.out.1 _) (HE.out.2.1 _) rfl (one_tree _ _ _) ?_) | fail)
  simp only [Act.put]
  go_cut [4] (fun s4 wx => ∃ P sa sm, s4 = .pointer (some ⟨P, 0, none⟩) ∧ Hid (wx.heap[P]? = some (.cells (resV (.slice sa (ded us).length sm)) 65 (0, 0)) ∧ Slc Value.string ByteArray.empty wx sa (ded us) ∧ Below w2.heap.size w2 wx))
  case first =>
    go_wp2_with (first
        | (refine wpList_load_row rfl 52 (.tmp 3) rfl w2.heap.size rfl 52 _ (0, 0) _ (setRow_heap _ _ _ _ _ _ (HE.out.1 _)) Tryz.underlying52 rfl (HE.out.2.1 _) ?_) | fail)
    refine (HE.out.2.2.2.2 _ _).mono ?_
    rintro e w3 ⟨v, B, rfl, ho, hb3⟩
    obtain ⟨sa, sm, rfl, hSl⟩ := slc_of_owns ho
    have h3' := fun o => heap_alloc_new w3 o
    have HF := Lib.hid (And.intro h3' hSl)
    have HB3 := Lib.hid hb3
    clear h3' hSl ho hb3
    go_wp2_with (first | (refine wpList_store_row rfl 65 (.tmp 4) (.tmp 28) rfl w3.heap.size (resV (.slice sa (ded us).length sm)) rfl rfl 65 _ (HF.out.1 _) (HE.out.2.2.1 _) rfl (one_res _ _ _) ?_) | fail)
    simp only [Act.put]
    go_meet
    have h4 := ((HE.out.2.2.2.1 _ _).trans (HB3.out.mono (HE.out.2.2.2.1 _ _).size))
    exact ⟨_, _, _, rfl, setRow_heap _ _ _ _ _ _ (HF.out.1 _), HF.out.2.below (below_setRow ((Below.refl _ _).alloc (Nat.le_refl _) _) (Nat.le_refl _) _), below_setRow (h4.alloc h4.size _) h4.size _⟩
  case rest =>
  rename World => w4
  obtain ⟨P, sa, sm, rfl, hX⟩ := hcut
  have HP := Lib.hid hX.out.1
  have HS4 := Lib.hid hX.out.2.1
  obtain ⟨q, eq⟩ : ∃ q, q = (ded us).length := ⟨_, rfl⟩
  rw [← eq] at HP
  have HQ := Lib.hid eq
  clear eq
  have HU4 := Lib.hid (HU2.out.below hX.out.2.2)
  have HB4 := Lib.hid (HB2.out.trans (hX.out.2.2.mono HB2.out.size))
  clear hX HU2 HB2 HE HS HU1 HB1
  have c0 := cell_of_row w4 P 0 _ 65 (0, 0) HP.out
  have c1' := cell_of_row w4 P 1 _ 65 (0, 0) HP.out
  have c2 := cell_of_row w4 P 2 _ 65 (0, 0) HP.out
  simp only [resV, List.getElem?_toArray, List.getElem?_cons_zero, List.getElem?_cons_succ] at c0 c1' c2
  have HC1 := Lib.hid c1'
  clear c1'
  have hPl : Hid (P < w4.heap.size) := World.block_lt_of_cell? _ _ c0
  have hmk := fun W => make0 W 25 9 (.string ⟨#[]⟩) 1 16 Tryz.underlying25 info9 n (by omega) (by omega)
  have HG : Hid ((w4.alloc (.cells (madeCells #[.string ⟨#[]⟩] n) 9)).rowIs w4.heap.size 9 n (fun j => .string ((ded (us.take 0)).getD j ByteArray.empty))) := by
    have h := rowIs_made2 w4 #[.string ⟨#[]⟩] n 9 1 rfl
    rw [Nat.mul_one] at h
    exact h.congr (g := fun j => .string ((ded (us.take 0)).getD j ByteArray.empty)) (fun i hi => by rw [Nat.mod_one]; rfl)
  go_wp2_with fail
  go_loopw [5, 6] (fun wt i wr => ∃ k m : Nat, k ≤ n ∧ m ≤ k ∧ i = .int .i64 k ∧ wt = .slice (some ⟨w4.heap.size, 0, none⟩) m n ∧ Hid (m = (ded (us.take k)).length) ∧ Hid (wr.rowIs w4.heap.size 9 n (fun j => .string ((ded (us.take k)).getD j ByteArray.empty))) ∧ Hid (Below w4.heap.size w4 wr)) (fun _ i _ => n - (intOf i).toNat)
  case atStart =>
    exact ⟨0, 0, Nat.zero_le _, Nat.le_refl _, rfl, rfl, rfl, HG.out, (Below.refl _ _).alloc (Nat.le_refl _) _⟩
  case round =>
    obtain ⟨k, m, hk, hm, rfl, rfl, hme, hr, hb⟩ := hrel
    clear HG hmk c0 c2
    by_cases hlt : k < n
    · obtain ⟨bu, ou, e, hc⟩ := (HU4.out.below hb.out) k (by rw [HL.out]; exact hlt)
      subst e
      obtain ⟨t, et⟩ : ∃ t, t = us.getD k ByteArray.empty := ⟨_, rfl⟩
      rw [← et] at hc
      have HT := Lib.hid et
      clear et
      have HCt := Lib.hid hc
      clear hc
      have hk1 : (k : Int) < (n : Int) := by omega
      go_wp2_with fail
      obtain ⟨W5, eW⟩ : ∃ W, W = wr := ⟨_, rfl⟩
      subst eW
      go_loopw [7, 8] (fun sn j wj => ∃ jn : Nat, jn ≤ m ∧ sn = .bool false ∧ j = .int .i64 jn ∧ Hid (∀ q, q < jn → (ded (us.take k)).getD q ByteArray.empty ≠ t) ∧ Hid (∃ d, wj = W5.drewN d)) (fun _ j _ => m - (intOf j).toNat)
      case atStart => exact ⟨0, Nat.zero_le _, rfl, rfl, fun q hq => absurd hq (Nat.not_lt_zero _), ⟨0, rfl⟩⟩
      case round =>
        obtain ⟨jn, hj, rfl, rfl, hN, hD⟩ := hrel
        have hrj : Hid (wr.rowIs w4.heap.size 9 n (fun j => .string ((ded (us.take k)).getD j ByteArray.empty))) := by
          obtain ⟨d, rfl⟩ := hD.out
          obtain ⟨cur, hh, h2⟩ := hr.out
          exact ⟨cur, hh, h2⟩
        have hbj : Hid (Below w4.heap.size w4 wr) := by
          obtain ⟨d, rfl⟩ := hD.out
          exact below_drewN' hb.out d
        have ct : wr.cell? ⟨bu, ou + k, none⟩ = some (.string t) := by
          obtain ⟨d, rfl⟩ := hD.out
          exact HCt.out
        by_cases hjm : jn < m
        · have cw := hrj.out.cell (i := jn) (by omega)
          obtain ⟨x, ex⟩ : ∃ x, x = (ded (us.take k)).getD jn ByteArray.empty := ⟨_, rfl⟩
          simp only [← ex] at cw
          have hjm1 : (jn : Int) < (m : Int) := by omega
          have HXe := Lib.hid ex
          clear ex
          by_cases hx : x = t
          · subst hx
            go_wp2_with fail
            go_quiet (fail)
            go_wp2_with fail
            go_roundw
            case rel =>
              have he := HXe.out.symm.trans HT.out
              have hK : ded (us.take (k + 1)) = ded (us.take k) := by
                rw [take_snoc us k (by rw [HL.out]; exact hlt), ded_old (inB_at (by rw [← hme.out]; exact hjm) he)]
              refine ⟨k + 1, m, by omega, by omega, by go_num, rfl, by show m = _; rw [hK]; exact hme.out, ?_, below_drewN' hbj.out _⟩
              show World.rowIs _ _ _ _ _
              rw [hK]
              obtain ⟨cur, hh, h2⟩ := hrj.out
              exact ⟨cur, hh, h2⟩
            case measure => simp [intOf]; omega
          · have hne : (x.toList == t.toList) = false := by
              cases h : (x.toList == t.toList)
              · rfl
              · exact absurd (toList_inj (by simpa using h)) hx
            go_wp2_with fail
            go_quiet (fail)
            go_wp2_with fail
            go_roundw
            case rel =>
              refine ⟨jn + 1, by omega, rfl, by go_num, fun q hq => ?_, ?_⟩
              · rcases Nat.lt_or_ge q jn with h | h
                · exact hN.out q h
                · obtain rfl : q = jn := by omega
                  rw [← HXe.out]; exact hx
              · obtain ⟨d, rfl⟩ := hD.out
                exact ⟨_, World.drewN_drewN _ _ _⟩
            case measure => simp [intOf]; omega
        · obtain rfl : jn = m := by omega
          have cw0 := hrj.out.cell (i := jn) (by omega)
          have cwf := hrj.out.frozen jn
          have lw := World.block_lt_of_cell? _ _ cw0
          simp only at lw
          have tc := fun (o : Obj) => (cell_alloc_old (w := wr) (o := o) (b := w4.heap.size) (i := jn) lw).trans cw0
          have tf := fun (o : Obj) => (fz_alloc_old (w := wr) (o := o) (b := w4.heap.size) (i := jn) lw).trans cwf
          have hmn : (jn : Int) < (n : Int) := by omega
          go_wp2_with fail
          go_roundw
          case rel =>
            have hK : ded (us.take (k + 1)) = ded (us.take k) ++ [us.getD k ByteArray.empty] := by
              rw [take_snoc us k (by rw [HL.out]; exact hlt), ded_new (inB_none (fun q hq e => hN.out q (by rw [hme.out]; exact hq) (e.trans HT.out.symm)))]
            refine ⟨k + 1, jn + 1, by omega, by omega, by go_num, rfl, ?_, ?_, ?_⟩
            · show jn + 1 = _
              rw [hK, List.length_append, ← hme.out]; rfl
            · refine ((hrj.out.set jn (.string t)).alloc _).congr (fun j hj => ?_)
              show _ = Value.string _
              rw [hK, getD_snoc, ← hme.out, ← HT.out]
              by_cases e : j = jn
              · rw [if_pos e, if_pos e]
              · rw [if_neg e, if_neg e]
            · exact (hbj.out.setCell (Nat.le_refl _) _).alloc (by rw [World.size_setCell]; exact hbj.out.size) _
          case measure => simp [intOf]; omega
    · obtain rfl : k = n := by omega
      obtain rfl : m = q := by rw [hme.out, HQ.out, List.take_of_length_le (by rw [HL.out]; omega)]
      have c1 := cell_later hb.out HC1.out
      have HR : Hid (wr.rowIs w4.heap.size 9 k (fun j => .string ((ded us).getD j ByteArray.empty))) := by
        have h := hr.out
        rw [List.take_of_length_le (by rw [HL.out]; omega)] at h
        exact h
      clear hr hme
      go_wp2_with fail
      clear c1
      obtain ⟨W5, eW⟩ : ∃ W, W = wr := ⟨_, rfl⟩
      subst eW
      go_loopw [9] (fun i wr => ∃ jn : Nat, jn ≤ m ∧ i = .int .i64 jn ∧ Hid (∃ d, wr = W5.drewN d)) (fun i _ => m - (intOf i).toNat)
      case atStart => exact ⟨0, Nat.zero_le _, rfl, ⟨0, rfl⟩⟩
      case round =>
        obtain ⟨jn, hj, rfl, hD⟩ := hrel
        have hrj : Hid (wr.rowIs w4.heap.size 9 k (fun j => .string ((ded us).getD j ByteArray.empty))) := by
          obtain ⟨d, rfl⟩ := hD.out
          obtain ⟨cur, hh, h2⟩ := HR.out
          exact ⟨cur, hh, h2⟩
        have hbj : Hid (Below w4.heap.size w4 wr) := by
          obtain ⟨d, rfl⟩ := hD.out
          exact below_drewN' hb.out d
        by_cases hjm : jn < m
        · have c1 := cell_later hbj.out HC1.out
          have cw := hrj.out.cell (i := jn) (by omega)
          obtain ⟨bs, os, e, hs⟩ := (HS4.out.below hbj.out) jn (by rw [← HQ.out]; exact hjm)
          subst e
          obtain ⟨x, ex⟩ : ∃ x, x = (ded us).getD jn ByteArray.empty := ⟨_, rfl⟩
          simp only [← ex] at cw hs
          clear ex
          have hjm1 : (jn : Int) < (m : Int) := by omega
          go_wp2_with fail
          go_quiet (fail)
          go_wp2_with fail
          go_roundw
          case rel =>
            refine ⟨jn + 1, by omega, by go_num, ?_⟩
            obtain ⟨d, rfl⟩ := hD.out
            exact ⟨_, World.drewN_drewN _ _ _⟩
          case measure => simp [intOf]; omega
        · have hjm1 : ¬ (jn : Int) < (m : Int) := by omega
          go_wp2_with fail
          go_ret
          exact ⟨rfl, HB4.out.trans (hbj.out.mono HB4.out.size)⟩
end Go.Proofs.YtiplakadjkimmabGreatFmt
