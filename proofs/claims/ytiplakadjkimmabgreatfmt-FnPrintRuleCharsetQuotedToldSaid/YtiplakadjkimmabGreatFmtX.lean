/-
  The law FnPrintRuleCharsetQuoted: printQuotedWithQuote, its loop.
-/
import Derived.Test.YtiplakadjkimmabGreatFmtV
namespace Go.Proofs.YtiplakadjkimmabGreatFmt
open Go.RowKit Go.Deep Go.PlainAid

set_option maxHeartbeats 16000000 in
set_option maxRecDepth 100000 in
theorem quoted_any (B : Nat) (mn : Bool) (l : List UInt8) (s : ByteArray) (w : World) (h : Css B mn 0 l w) (hl : l.length ≤ 1048576) (hs : s.size ≤ 1048576) (hp : ∀ i, i < s.size → 32 ≤ bt s i ∧ bt s i ≤ 126) :
    Calls Tryz.prog 32 #[.pointer (some ⟨B, 0, none⟩), .string s, .int .u8 34, .int .u8 0] w fun e w' => e = .returned (.tuple #[]) ∧ Hid (Css B mn 0 ((l ++ [34]) ++ bodyE s s.size ++ [34]) w') ∧ Hid (Bel B w w') := by
  obtain ⟨i0, hi0, hz0, hz1, hz2⟩ := info_parts info5
  have hBs := h.lt
  have HH := Lib.hid h
  have HS := Lib.hid hs
  have HPR := Lib.hid hp
  clear h hs hp
  have hone : ∀ u ∈ [Value.int .u8 34], u.oneCell' = true := by decide
  have HCa := fun o => Lib.hid (HH.out.alloc o)
  obtain ⟨ho, v, hc15, hrow⟩ := HH.out
  have hf := fun o => (HCa o).out.1.2.2.2
  have hca := fun o => (cell_alloc_old (w := w) (o := o) (i := 15) hBs).trans hc15
  have HR := fun o => Lib.hid (hrow.alloc o)
  have HN := Lib.hid (own_ne hrow (Nat.lt_succ_self B))
  clear ho hrow
  go_enter Tryz.func32, Tryz.ntmps32
  go_upto_region 2 with (first | (refine wpList_append_lies _ rfl (.tmp 22) (.tmp 24) 31 rfl (B + 1) 5 i0 (.int .u8 0) 1 1 Tryz.underlying31 hi0 hz0 hz1 hz2 rfl (by decide) v l.length (bv l) rfl (HR _).out ⟨w.heap.size, 0, none⟩ 1 1 [.int .u8 34] rfl rfl (cell_one_new _ _ _) hone (by decide) (by unfold maxLen; omega) (by omega) (by rw [World.size_alloc]; omega) _ rfl ?_; intro g cap w1 hown1 hgrow1 _ _; have HOW := Lib.hid (And.intro hown1 hgrow1); have q15 := (hgrow1.cell_far ⟨B, 15, none⟩ (by rw [World.size_alloc]; exact Nat.lt_succ_of_lt hBs) HN.out).trans (hca _); have qf := (hgrow1.frozen_far ⟨B, 15, none⟩ (by rw [World.size_alloc]; exact Nat.lt_succ_of_lt hBs) HN.out).trans (hf _); clear hown1 hgrow1) | fail)
  have hfin := css_app (l2 := [34]) (HCa _).out.1 (hca _) (HR _).out HOW.out.2 (n := l.length + 1) (by rw [List.length_append]; rfl) (xs := bv l ++ [.int .u8 34]) (by rw [bv_append]; rfl) HOW.out.1
  obtain ⟨W1, e1⟩ : ∃ W1, W1 = w1.setCell ⟨B, 15, none⟩ (.slice (some ⟨g, 0, none⟩) (l.length + 1) cap) := ⟨_, rfl⟩
  rw [← e1] at hfin ⊢
  obtain ⟨L0, eL⟩ : ∃ L0, L0 = l ++ [(34 : UInt8)] := ⟨_, rfl⟩
  have hL0 : L0.length ≤ 1048577 := by rw [eL, List.length_append]; show _ + 1 ≤ _; omega
  rw [← eL] at hfin
  have HL0 := Lib.hid eL
  clear eL
  have HC1 := Lib.hid hfin.1
  have HB1 := Lib.hid (hfin.2 w ((Bel.refl B w).alloc (Nat.le_of_lt hBs) _))
  clear hfin e1 HOW q15 qf hf hca HR HN hc15 HCa
  have c3 := HC1.out.1.1.1
  go_wp2_with fail
  go_loopw [9, 10] (fun i rs wr => ∃ (k r : Nat) (ll : List UInt8), k ≤ s.size ∧ r ≤ k ∧ i = .int .i64 k ∧ rs = .int .i64 r ∧ ll.length ≤ 1048577 + 2 * k ∧ Hid (ll ++ piece s r k = L0 ++ bodyE s k) ∧ Hid (Css B mn 0 ll wr) ∧ Hid (Bel B w wr)) (fun i _ _ => s.size - (intOf i).toNat)
  case atStart =>
    exact ⟨0, 0, L0, Nat.zero_le _, Nat.le_refl _, rfl, rfl, by omega, by show _ = _; rw [piece_nil s 0 0 (Nat.le_refl _)]; rfl, HC1, HB1⟩
  case round =>
    obtain ⟨k, r, ll, hk, hr, rfl, rfl, hll, HP, HC, HB⟩ := hrel
    clear c3
    have hs := HS.out
    by_cases hlt : k < s.size
    · have hk1 : (k : Int) < (s.size : Int) := by omega
      have hpr := HPR.out k hlt
      have hbe := bodyE_len s k
      obtain ⟨x, hx⟩ : ∃ x : Int, bt s k = x := ⟨_, rfl⟩
      have hru : ∀ W, Calls Tryz.prog 48 #[.string (s.extract k s.size)] W fun e w' => e = .returned (.tuple #[.int .i32 x, .int .i64 1]) ∧ W = w' := fun W => by
        have e0 : bt (s.extract k s.size) 0 = x := by rw [bt_extract s k s.size 0 (Nat.le_refl _) (by omega)]; exact hx
        have hh := rune_any (s.extract k s.size) W (by rw [size_extract _ _ _ (Nat.le_refl _)]; omega) (by rw [e0, ← hx]; omega)
        rw [e0] at hh
        exact hh
      rw [hx] at hpr
      have HX := Lib.hid hx
      have HX8 : Hid (x = ((by8 s k).toNat : Int)) := by show _ = _; rw [← hx]; exact bt_by s k
      have HRU := Lib.hid hru
      have HNO : Hid (escB s k = false → Hid (ll ++ piece s r (k + 1) = L0 ++ bodyE s (k + 1))) := fun he => by
        show _ = _
        rw [piece_snoc s r k hr hlt, esc_no he, ← List.append_assoc, HP.out, List.append_assoc]
      have hb := get_bt s
      have c3 := HC.out.1.1.1
      have c5 := HC.out.1.1.2
      have c7 := HC.out.1.2.1.2
      clear hx hru
      go_upto_block 2 with (first | (go_at_call 48; refine (HRU.out _).mono ?_; rintro e w' ⟨rfl, rfl⟩) | (go_at_call 49; refine (has_none _).mono ?_; rintro e w' ⟨rfl, rfl⟩) | fail)
      refine switch_wp rfl _ B mn ll s k x wr hs hlt HPR HX HC ?_
      intro esc y113 y114 y115 y116 y117 y118 y119 y120 y121 y122 y123 y124 y125 y126 y127 y128 y129 y130 y131 y132 y133 y134 y135 y136 y137 y138 y139 y140 y141 y142 y143 y144 y145 y146 y147 y148 y149 y150 y151 y152 y153 y154 y155 y156 y157 y158 y159 y160 y161 y162 y163 y164 y165 y166 y167 y168 y169 y170 y171 y172 y173 y174 y175 y176 y177 y178 y179 y180 he1 he0
      by_cases heb : escB s k = true
      · have he := heb
        obtain rfl := he1 heb
        have hesc3 : by8 s k = 92 ∨ by8 s k = 34 ∨ by8 s k = 47 := esc_3 he
        have HC3 := Lib.hid hesc3
        clear heb he1 he0 hesc3
        go_upto_if 185 with (fail)
        go_cut [] (fun wx => Hid (Css B mn 0 (L0 ++ bodyE s k) wx) ∧ Hid (Bel B w wx))
        case first =>
          by_cases hrk : r < k
          · have hrk1 : (r : Int) < (k : Int) := by omega
            have hkl : k ≤ s.size := by omega
            have hbnd : (s.extract r k).size ≤ 1048576 := by rw [size_extract _ _ _ hkl]; omega
            have hB0 := HC.out.lt
            have hpc : ll ++ (s.extract r k).data.toList = L0 ++ bodyE s k := by rw [piece_eq]; exact HP.out
            obtain ⟨ho, v, hc15, hrow⟩ := HC.out
            have hf := ho.2.2.2
            have HR : Hid (wr.drew.ownsRow (B + 1) 5 1 v ll.length (bv ll)) := hrow
            have HO : Hid (Opt B mn 0 wr.drew) := ho
            have HN := Lib.hid (own_ne hrow (Nat.lt_succ_self B))
            have HPC := Lib.hid hpc
            clear ho hrow hpc
            go_wp2_with fail
            go_region_law (first
              | (refine step_append_str _ rfl (.tmp 190) (.tmp 194) 31 9 rfl (B + 1) 5 i0 Tryz.underlying31 Tryz.underlying9 hi0 hz0 hz1 hz2 v ll.length (bv ll) rfl HR.out (s.extract r k) rfl (by unfold maxLen; omega) (by omega) (by show B + 1 ≤ wr.heap.size; omega) ?_
                 intro sa sn sm w3 hown3 hgrow3
                 have q15 : w3.cell? ⟨B, 15, none⟩ = some v := (hgrow3.cell_far ⟨B, 15, none⟩ hB0 HN.out).trans hc15
                 have qf : w3.frozen? ⟨B, 15, none⟩ = false := (hgrow3.frozen_far ⟨B, 15, none⟩ hB0 HN.out).trans hf))
            all_goals
              go_wp2_with fail
              go_meet
              have hfin := css_app (w := wr.drew) (l2 := (s.extract r k).data.toList) HO.out hc15 HR.out hgrow3 (n := ll.length + (s.extract r k).size) (by rw [List.length_append, bs_len]) (xs := bv ll ++ Lib.strCells (s.extract r k)) (by rw [bv_append]; rfl) hown3
              rw [HPC.out] at hfin
              exact ⟨hfin.1, hfin.2 w HB.out.drew⟩
          · have hrk1 : ¬ (r : Int) < (k : Int) := by omega
            go_wp2_with fail
            go_meet
            have hp := HP.out
            rw [piece_nil s r k (by omega), List.append_nil] at hp
            refine ⟨?_, HB⟩
            show Css _ _ _ _ _
            rw [← hp]
            exact HC.out
        case rest =>
        rename World => W1
        obtain ⟨HC1, HB1⟩ := hcut
        have hesc := fun t => escape_any B mn 0 (L0 ++ bodyE s k) (by8 s k) t W1 HC1.out (by rw [List.length_append]; omega) HC3.out
        rw [← HX8.out] at hesc
        have HE := Lib.hid hesc
        clear hesc
        go_wp2_with fail
        refine (HE.out _).mono ?_
        rintro e w' ⟨rfl, HC2, HB2⟩
        go_wp2_with fail
        go_roundw
        case rel => 
          refine ⟨k + 1, k + 1, (L0 ++ bodyE s k) ++ [92, by8 s k], by omega, by omega, by go_num, by go_num, ?_, ?_, HC2, HB1.out.trans HB2.out⟩
          · rw [List.length_append, List.length_append]; show _ + 2 ≤ _; omega
          · show _ = _
            rw [piece_nil s (k + 1) (k + 1) (Nat.le_refl _), List.append_nil, esc_yes he, List.append_assoc]
        case measure => simp [intOf]; omega
      · have he : escB s k = false := by simpa using heb
        obtain rfl := he0 he
        clear heb he1 he0
        go_wp2_with (fail)
        go_roundw
        case rel => exact ⟨k + 1, r, ll, by omega, by omega, by go_num, rfl, by omega, HNO.out he, HC, HB⟩
        case measure => simp [intOf]; omega
    · obtain rfl : k = s.size := by omega
      have hk1 : ¬ (s.size : Int) < (s.size : Int) := by omega
      have hbe := bodyE_len s s.size
      go_upto_if 213 with fail
      go_cut [] (fun wx => Hid (Css B mn 0 (L0 ++ bodyE s s.size) wx) ∧ Hid (Bel B w wx))
      case first =>
        by_cases hrk : r < s.size
        · have hrk1 : (r : Int) < (s.size : Int) := by omega
          have hbnd : (s.extract r s.size).size ≤ 1048576 := by rw [size_extract _ _ _ (Nat.le_refl _)]; omega
          have hB0 := HC.out.lt
          have hpc : ll ++ (s.extract r s.size).data.toList = L0 ++ bodyE s s.size := by rw [piece_eq]; exact HP.out
          obtain ⟨ho, v, hc15, hrow⟩ := HC.out
          have hf := ho.2.2.2
          have HR : Hid (wr.drew.ownsRow (B + 1) 5 1 v ll.length (bv ll)) := hrow
          have HO : Hid (Opt B mn 0 wr.drew) := ho
          have HN := Lib.hid (own_ne hrow (Nat.lt_succ_self B))
          have HPC := Lib.hid hpc
          clear ho hrow hpc
          go_wp2_with fail
          go_region_law (first
            | (refine step_append_str _ rfl (.tmp 218) (.tmp 221) 31 9 rfl (B + 1) 5 i0 Tryz.underlying31 Tryz.underlying9 hi0 hz0 hz1 hz2 v ll.length (bv ll) rfl HR.out (s.extract r s.size) rfl (by unfold maxLen; omega) (by omega) (by show B + 1 ≤ wr.heap.size; omega) ?_
               intro sa sn sm w3 hown3 hgrow3
               have q15 : w3.cell? ⟨B, 15, none⟩ = some v := (hgrow3.cell_far ⟨B, 15, none⟩ hB0 HN.out).trans hc15
               have qf : w3.frozen? ⟨B, 15, none⟩ = false := (hgrow3.frozen_far ⟨B, 15, none⟩ hB0 HN.out).trans hf))
          all_goals
            go_wp2_with fail
            go_meet
            have hfin := css_app (w := wr.drew) (l2 := (s.extract r s.size).data.toList) HO.out hc15 HR.out hgrow3 (n := ll.length + (s.extract r s.size).size) (by rw [List.length_append, bs_len]) (xs := bv ll ++ Lib.strCells (s.extract r s.size)) (by rw [bv_append]; rfl) hown3
            rw [HPC.out] at hfin
            exact ⟨hfin.1, hfin.2 w HB.out.drew⟩
        · have hrk1 : ¬ (r : Int) < (s.size : Int) := by omega
          go_wp2_with fail
          go_meet
          have hp := HP.out
          rw [piece_nil s r s.size (by omega), List.append_nil] at hp
          refine ⟨?_, HB⟩
          show Css _ _ _ _ _
          rw [← hp]
          exact HC.out
      case rest =>
      rename World => W2
      obtain ⟨HC2, HB2⟩ := hcut
      obtain ⟨L3, eL3⟩ : ∃ L3, L3 = L0 ++ bodyE s s.size := ⟨_, rfl⟩
      have hL3 : L3.length ≤ 4000000 := by rw [eL3, List.length_append]; omega
      rw [← eL3] at HC2
      have HL3 := Lib.hid eL3
      clear eL3
      have hB2 := HC2.out.lt
      have HCa := fun o => Lib.hid (HC2.out.alloc o)
      obtain ⟨ho, v, hc15, hrow⟩ := HC2.out
      have hf := fun o => (HCa o).out.1.2.2.2
      have hca := fun o => (cell_alloc_old (w := W2) (o := o) (i := 15) hB2).trans hc15
      have HR := fun o => Lib.hid (hrow.alloc o)
      have HN := Lib.hid (own_ne hrow (Nat.lt_succ_self B))
      clear ho hrow
      go_wp2_with (first | (refine wpList_append_lies _ rfl (.tmp 231) (.tmp 233) 31 rfl (B + 1) 5 i0 (.int .u8 0) 1 1 Tryz.underlying31 hi0 hz0 hz1 hz2 rfl (by decide) v L3.length (bv L3) rfl (HR _).out ⟨W2.heap.size, 0, none⟩ 1 1 [.int .u8 34] rfl rfl (cell_one_new _ _ _) hone (by decide) (by unfold maxLen; omega) (by omega) (by rw [World.size_alloc]; omega) _ rfl ?_; intro g2 cap2 w4 hown1 hgrow1 _ _; have HOW := Lib.hid (And.intro hown1 hgrow1); have q15 := (hgrow1.cell_far ⟨B, 15, none⟩ (by rw [World.size_alloc]; exact Nat.lt_succ_of_lt hB2) HN.out).trans (hca _); have qf := (hgrow1.frozen_far ⟨B, 15, none⟩ (by rw [World.size_alloc]; exact Nat.lt_succ_of_lt hB2) HN.out).trans (hf _); clear hown1 hgrow1) | fail)
      refine bodyPost_end (v := .tuple #[]) (by simp [results, Tryz.results32, go_sem]) rfl ?_
      have hfin := css_app (l2 := [34]) (HCa _).out.1 (hca _) (HR _).out HOW.out.2 (n := L3.length + 1) (by rw [List.length_append]; rfl) (xs := bv L3 ++ [.int .u8 34]) (by rw [bv_append]; rfl) HOW.out.1
      refine ⟨rfl, ?_, hfin.2 w (HB2.out.alloc (Nat.le_of_lt hB2) _)⟩
      show Css _ _ _ _ _
      rw [show l ++ 34 :: (bodyE s s.size ++ [34]) = L3 ++ [34] by rw [HL3.out, HL0.out]; simp]
      exact hfin.1
end Go.Proofs.YtiplakadjkimmabGreatFmt
