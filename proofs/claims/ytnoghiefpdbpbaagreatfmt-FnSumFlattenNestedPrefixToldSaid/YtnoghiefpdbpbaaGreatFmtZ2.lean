/-
  strings.EqualFold of any two texts, walked: the walk.
-/
import Derived.Test.YtnoghiefpdbpbaaGreatFmtZ
namespace Go.Proofs.YtnoghiefpdbpbaaGreatFmt
open Go.RowKit Go.Deep Go.PlainAid

theorem EqTabs.below {w w' : World} (h : EqTabs w) (hb : Below w.heap.size w w') : EqTabs w' := ⟨Utf8Tabs_below h.utf hb, h.fold.below hb⟩

theorem eqA_step {s t : ByteArray} {k : Nat} (h : k < s.size ∧ k < t.size) : eqA s t k = if 128 ≤ bt s k ∨ 128 ≤ bt t k then eqU (s.extract k s.size) 0 (t.extract k t.size) else if byteEq (bt s k) (bt t k) then eqA s t (k + 1) else false := by
  rw [eqA, if_pos h]
theorem eqA_end {s t : ByteArray} {k : Nat} (h : ¬ (k < s.size ∧ k < t.size)) : eqA s t k = (s.size == t.size) := by
  rw [eqA, if_neg h]
theorem byteEq_iff {x y : Int} : byteEq x y = true ↔ (y = x ∨ (y < x ∧ 65 ≤ y ∧ y ≤ 90 ∧ x = y + 32) ∨ (x < y ∧ 65 ≤ x ∧ x ≤ 90 ∧ y = x + 32)) := by
  unfold byteEq caseOf
  split
  · simp [*]
  · split <;> simp <;> omega
theorem iterPos_of {w : World} {b : Nat} {s : ByteArray} {p : Nat} (h : w.heap[b]? = some (.stringIter s p)) : w.iterPos b = p := by
  unfold World.iterPos
  rw [h]
theorem lt_of_blk {w : World} {b : Nat} {o : Obj} (h : w.heap[b]? = some o) : b < w.heap.size := (Array.getElem?_eq_some_iff.1 h).1
theorem runeEq_same (a : Int) : runeEq a a = true := by
  unfold runeEq
  rw [if_pos rfl]
theorem runeEq_less {a b : Int} (h : a < b) : runeEq a b = lessEq a b := by
  unfold runeEq
  rw [if_neg (by omega), if_neg (by omega)]
theorem runeEq_more {a b : Int} (h : b < a) : runeEq a b = lessEq b a := by
  unfold runeEq
  rw [if_neg (by omega), if_pos h]
theorem lessEq_low {x y : Int} (h : y < 128) : lessEq x y = true ↔ (65 ≤ x ∧ x ≤ 90 ∧ y = x + 32) := by
  unfold lessEq caseOf
  rw [if_pos h]
  simp
theorem lessEq_high {x y : Int} (h : ¬ y < 128) : lessEq x y = foldLoop 3 x y (foldI x) := by
  unfold lessEq
  rw [if_neg h]
theorem bt_in (s : ByteArray) (i : Nat) : 0 ≤ bt s i ∧ bt s i ≤ 255 := by
  unfold bt
  split
  · have := (s[i]).toNat_lt
    omega
  · omega

set_option maxHeartbeats 4000000 in
set_option maxRecDepth 100000 in
theorem equalfold_all (s t : ByteArray) (w : World) (hs : s.size < 4611686018427387904) (ht : t.size < 4611686018427387904) (hE : EqTabs w) : Calls Tryz.prog 27 #[.string s, .string t] w (Ret (.bool (eqF s t)) w) := by
  have hb := get_bt s
  have hc := get_bt t
  unfold eqF
  obtain ⟨RES, eRES⟩ : ∃ RES, RES = eqA s t 0 := ⟨_, rfl⟩
  rw [← eRES]
  have HR := Lib.hid eRES.symm
  have HE := Lib.hid hE
  have H0 := Lib.hid (And.intro hs ht)
  clear eRES
  rcases Int.lt_or_le (t.size : Int) (s.size : Int) with hle | hle
  all_goals
    have HL := Lib.hid hle
    clear hs ht hE
    go_enter Tryz.func27, Tryz.ntmps27
    go_wp2_with fail
    refine wp_scope_forward 0 rfl ?_
    go_wp2_with fail
    go_loop [5] (fun i => ∃ k : Nat, k ≤ s.size ∧ k ≤ t.size ∧ i = .int .i64 (k : Int) ∧ Hid (eqA s t k = RES)) (fun i => s.size - (intOf i).toNat)
    case atStart => exact ⟨0, by omega, by omega, rfl, HR⟩
    case round =>
      obtain ⟨k, hks, hkt, rfl, HP⟩ := hrel
      have hs0 := H0.out.1
      have ht0 := H0.out.2
      by_cases hk : k < s.size ∧ k < t.size
      · have k1 : (k : Int) < (s.size : Int) := by omega
        have k2 : (k : Int) < (t.size : Int) := by omega
        have r1 := bt_in s k
        have r2 := bt_in t k
        have HPS := Lib.hid ((eqA_step hk).symm.trans HP.out)
        obtain ⟨x, hx⟩ : ∃ x : Nat, bt s k = x := ⟨(bt s k).toNat, by omega⟩
        obtain ⟨y, hy⟩ : ∃ y : Nat, bt t k = y := ⟨(bt t k).toNat, by omega⟩
        have hor : bits .or .u8 (bt s k) (bt t k) = ((x ||| y : Nat) : Int) := by rw [hx, hy]; exact u8_or_nat _ _ (by omega) (by omega)
        have HK := Lib.hid hk
        have HXY := Lib.hid (And.intro hx hy)
        by_cases hlow : x < 128 ∧ y < 128
        · have hlt : ¬ (128 : Int) ≤ ((x ||| y : Nat) : Int) := by have := Nat.or_lt_two_pow (n := 7) (x := x) (y := y) (by omega) (by omega); omega
          have hnx := HPS.out
          rw [if_neg (by omega)] at hnx
          have HNX := Lib.hid hnx
          clear hx hy hnx
          go_wp2_with fail
          all_goals have hx := HXY.out.1
          all_goals have hy := HXY.out.2
          all_goals have hnx := HNX.out
          all_goals simp only [beq_iff_eq, beq_eq_false_iff_ne, ne_eq] at *
          all_goals first
            | (go_round
               case rel =>
                 refine ⟨k + 1, by omega, by omega, by go_num, Lib.hid ?_⟩
                 rw [← hnx, if_pos (byteEq_iff.2 (by omega))]
               case measure => simp [intOf]; omega)
            | (go_ret
               refine ⟨?_, Below.refl _ _⟩
               rw [← hnx, if_neg (fun h => by have := byteEq_iff.1 h; omega)]
               rfl)
        · have hge : (128 : Int) ≤ ((x ||| y : Nat) : Int) := by
            have g1 := Nat.left_le_or (n := x) (m := y)
            have g2 := Nat.right_le_or (n := x) (m := y)
            omega
          have hnx := HPS.out
          rw [if_pos (by omega)] at hnx
          obtain ⟨s', es⟩ : ∃ s' : ByteArray, s' = s.extract k s.size := ⟨_, rfl⟩
          obtain ⟨t', et⟩ : ∃ t' : ByteArray, t' = t.extract k t.size := ⟨_, rfl⟩
          have zt : t'.size ≤ t.size := by rw [et, ByteArray.size_extract]; omega
          rw [← es, ← et] at hnx
          have HNX := Lib.hid hnx
          have es2 := es.symm
          have et2 := et.symm
          clear es et hx hy hnx hlow
          go_wp2_with fail
          go_step3
          refine ⟨rfl, ?_⟩
          go_wp2_with fail
          go_loopw [1] (fun tv wr => ∃ (p : Nat) (tt : ByteArray), tv = .string tt ∧ Hid (tt.size ≤ t.size) ∧ Hid (wr.heap[w.heap.size]? = some (.stringIter s' p)) ∧ Hid (eqU s' p tt = RES) ∧ Hid (Below w.heap.size w wr)) (fun _ wr => s'.size - wr.iterPos w.heap.size)
          case atStart => exact ⟨0, t', rfl, zt, World.iter_heap _ _ _, HNX, (Below.refl _ _).alloc (Nat.le_refl _) _⟩
          case round =>
            obtain ⟨p, tt, rfl, htt, hit, hq, hb2⟩ := hrel
            have hbs := lt_of_blk hit.out
            have hpos := iterPos_of hit.out
            by_cases hp : p < s'.size
            · have hnext := fun ty => run_next_at (P := Tryz.prog) wr w.heap.size s' p ty hit.out hp
              obtain ⟨W1, eW1⟩ : ∃ W1, W1 = World.setBlk wr w.heap.size (.stringIter s' (p + (Utf8.decode s' p).2)) := ⟨_, rfl⟩
              have hbw : Below w.heap.size w W1 := by rw [eW1]; exact setBlk_below hb2.out _ _ (Nat.le_refl _)
              have hi1 : W1.heap[w.heap.size]? = some (.stringIter s' (p + (Utf8.decode s' p).2)) := by rw [eW1]; exact setBlk_at _ _ _ hbs
              rw [← eW1] at hnext
              have hda := decode_le s' p
              have hwid := decode_wide s' p
              by_cases ht0 : tt.size = 0
              · have hres := (eqU_none hp ht0).symm.trans hq.out
                subst hres
                have hz : ((tt.size : Int) == 0) = true := by simp [ht0]
                generalize (Utf8.decode s' p).1 = a at hnext hda
                clear eW1 hq hi1 ht0 hwid
                go_wp2_with fail
                go_ret
                exact ⟨rfl, hbw⟩
              · have hst := (eqU_step hp ht0).symm.trans hq.out
                have hz : ((tt.size : Int) == 0) = false := by simp [ht0]
                have hdec := Tryz.utf8_DecodeRuneInString tt W1 (HE.out.below hbw).utf
                have edg : Lib.decodeGo tt = Utf8.decode tt 0 := if_neg ht0
                rw [edg] at hdec
                have hwl := Lib.width_le tt (by omega)
                have hdb := decode_le tt 0
                obtain ⟨a, ea⟩ : ∃ a, (Utf8.decode s' p).1 = a := ⟨_, rfl⟩
                obtain ⟨d, ed⟩ : ∃ d, (Utf8.decode s' p).2 = d := ⟨_, rfl⟩
                obtain ⟨b, eb⟩ : ∃ b, (Utf8.decode tt 0).1 = b := ⟨_, rfl⟩
                obtain ⟨d2, ed2⟩ : ∃ d2, (Utf8.decode tt 0).2 = d2 := ⟨_, rfl⟩
                rw [ea, eb, ed, ed2] at hst
                rw [ea] at hnext hda
                rw [ed] at hi1 hwid
                rw [eb] at hdec hdb
                rw [ed2] at hdec hwl
                have hd2z : (d2 : Int) ≤ (tt.size : Int) := by omega
                have htz : tt.size < 4611686018427387904 := by have := htt.out; omega
                have hts : (tt.extract d2 tt.size).size ≤ t.size := by rw [ByteArray.size_extract]; have := htt.out; omega
                have HST := Lib.hid hst
                have HDEC := Lib.hid hdec
                have HI := Lib.hid (And.intro hi1 (And.intro hbw (And.intro hts hwid)))
                have hnz : w.heap.size < W1.heap.size := lt_of_blk hi1
                clear eW1 ea eb ed ed2 hst hdec edg hq ht0 hi1 hbw hts
                have hnext1 : ∀ W2, Below W1.heap.size W1 W2 → W2.heap[w.heap.size]? = some (.stringIter s' (p + d)) ∧ Below w.heap.size w W2 := fun W2 h => ⟨(h.block _ hnz).trans HI.out.1, HI.out.2.1.trans (h.mono (Nat.le_of_lt hnz))⟩
                have HN := Lib.hid hnext1
                clear hnext1
                by_cases hab : b = a
                · subst hab
                  have g1 : ((b : Int) == (b : Int)) = true := by simp
                  go_wp2_with (first | (go_at_call 29; refine HDEC.out.mono ?_; rintro e w2 ⟨rfl, hb3⟩) | fail)
                  refine ⟨⟨p + d, tt.extract d2 tt.size, rfl, HI.out.2.2.1, (HN.out _ hb3).1, ?_, (HN.out _ hb3).2⟩, ?_⟩
                  · exact (if_pos (runeEq_same _)).symm.trans HST.out
                  · rw [iterPos_of (HN.out _ hb3).1, hpos]
                    have := HI.out.2.2.2
                    omega
                · have g1 : ((b : Int) == (a : Int)) = false := by rw [beq_eq_false_iff_ne]; omega
                  rcases Nat.lt_or_gt_of_ne hab with hlt | hlt
                  · have g2 : (b : Int) < (a : Int) := by omega
                    have HRUN := Lib.hid (runeEq_more g2)
                    by_cases h128 : (a : Int) < 128
                    · by_cases hcs : 65 ≤ (b : Int) ∧ (b : Int) ≤ 90 ∧ (a : Int) = b + 32
                      · have HC := Lib.hid (HRUN.out.trans ((lessEq_low h128).2 hcs))
                        obtain ⟨c1, c2, c3⟩ := hcs
                        have c4 : ((a : Int) == (b : Int) + 97 - 65) = true := by rw [beq_iff_eq]; omega
                        clear c3
                        go_wp2_with (first | (go_at_call 29; refine HDEC.out.mono ?_; rintro e w2 ⟨rfl, hb3⟩) | fail)
                        refine ⟨⟨p + d, tt.extract d2 tt.size, rfl, HI.out.2.2.1, (HN.out _ hb3).1, ?_, (HN.out _ hb3).2⟩, ?_⟩
                        · exact (if_pos HC.out).symm.trans HST.out
                        · rw [iterPos_of (HN.out _ hb3).1, hpos]
                          have := HI.out.2.2.2
                          omega
                      · have hcf : runeEq (a : Int) (b : Int) = false := by
                          rw [HRUN.out]
                          cases hh : lessEq (b : Int) (a : Int)
                          · rfl
                          · exact absurd ((lessEq_low h128).1 hh) hcs
                        have hres := HST.out
                        rw [if_neg (by rw [hcf]; exact Bool.false_ne_true)] at hres
                        subst hres
                        have HCS := Lib.hid hcs
                        clear hcs hcf
                        go_wp2_with (first | (go_at_call 29; refine HDEC.out.mono ?_; rintro e w2 ⟨rfl, hb3⟩) | fail)
                        all_goals first
                          | (exfalso
                             have h9 := HCS.out
                             (try simp only [beq_iff_eq] at *)
                             omega)
                          | (go_ret
                             exact ⟨rfl, (HN.out _ hb3).2⟩)
                    · have hlo : (b : Int) ≤ 2147483647 := by omega
                      have HSF := Lib.hid (fun W h => simplefold_any (b : Int) W (by omega) hlo (HE.out.below (HN.out W h).2).fold)
                      obtain ⟨B, eB⟩ : ∃ B, B = foldLoop 3 b a (foldI b) := ⟨_, rfl⟩
                      have HB := Lib.hid (And.intro eB (HRUN.out.trans ((lessEq_high h128).trans eB.symm)))
                      have hbk := Back.start (b : Int) (a : Int)
                      rw [← eB] at hbk
                      have HBK := Lib.hid hbk
                      have hfr := fold_range (r := (b : Int)) (by omega) hlo
                      have HFR := Lib.hid hfr
                      clear eB hbk hfr
                      go_wp2_with (first | (go_at_call 29; refine HDEC.out.mono ?_; rintro e w2 ⟨rfl, hb3⟩) | (go_at_call 30; refine (HSF.out _ hb3).mono ?_; rintro e w3 ⟨rfl, hb4⟩) | fail)
                      have hb34 : Below W1.heap.size W1 w3 := hb3.trans (hb4.mono hb3.size)
                      obtain ⟨Wa, eWa⟩ : ∃ Wa, Wa = wr := ⟨_, rfl⟩
                      subst eWa
                      go_loopw [13] (fun rv wr => ∃ v : Int, rv = .int .i32 v ∧ Hid (Back b a v B) ∧ Hid (-2147483648 ≤ v ∧ v ≤ 2147483647) ∧ Hid (Below W1.heap.size W1 wr)) (fun rv _ => distTo b (intOf rv))
                      case atStart => exact ⟨_, rfl, HBK, HFR, hb34⟩
                      case round =>
                        obtain ⟨v, rfl, hbk, hvr, hb5⟩ := hrel
                        by_cases hgo : v ≠ b ∧ v < a
                        · obtain ⟨q1, q2⟩ := hgo
                          have f1 : (v != (b : Int)) = true := by simpa using q1
                          have HON := Lib.hid (And.intro (hbk.out.on q1 q2) (fold_range hvr.out.1 hvr.out.2))
                          have HS2 := Lib.hid (simplefold_any v wr hvr.out.1 hvr.out.2 (HE.out.below (HN.out wr hb5.out).2).fold)
                          clear q1
                          go_wp2_with (first | (go_at_call 30; refine HS2.out.mono ?_; rintro e w6 ⟨rfl, hb6⟩) | fail)
                          exact ⟨⟨foldI v, rfl, HON.out.1.1, HON.out.2, hb5.out.trans (hb6.mono hb5.out.size)⟩, HON.out.1.2⟩
                        · have hoff := hbk.out.off hgo
                          have hrun := HB.out.2
                          by_cases hv : v = b
                          · subst hv
                            have f1 : ((b : Int) != (b : Int)) = false := by simp
                            have f2 : ((b : Int) == (a : Int)) = false := by rw [beq_eq_false_iff_ne]; omega
                            have hres := HST.out
                            rw [hrun, hoff, f2, if_neg Bool.false_ne_true] at hres
                            subst hres
                            clear hoff hrun hgo
                            go_wp2_with fail
                            go_ret
                            exact ⟨rfl, (HN.out _ hb5.out).2⟩
                          · have f1 : (v != (b : Int)) = true := by simpa using hv
                            have f3 : ¬ v < (a : Int) := fun h => hgo ⟨hv, h⟩
                            by_cases hv2 : v = a
                            · subst hv2
                              have f2 : ((a : Int) == (a : Int)) = true := by simp
                              have HRB := Lib.hid (hrun.trans (hoff.trans f2))
                              clear hoff hrun hgo hv
                              go_wp2_with fail
                              refine ⟨⟨p + d, tt.extract d2 tt.size, rfl, HI.out.2.2.1, (HN.out _ hb5.out).1, ?_, (HN.out _ hb5.out).2⟩, ?_⟩
                              · exact (if_pos HRB.out).symm.trans HST.out
                              · rw [iterPos_of (HN.out _ hb5.out).1, hpos]
                                have := HI.out.2.2.2
                                omega
                            · have f2 : (v == (a : Int)) = false := by rw [beq_eq_false_iff_ne]; exact hv2
                              have hres := HST.out
                              rw [hrun, hoff, f2, if_neg Bool.false_ne_true] at hres
                              subst hres
                              clear hoff hrun hgo hv hv2
                              go_wp2_with fail
                              go_ret
                              exact ⟨rfl, (HN.out _ hb5.out).2⟩
                  · have g2 : ¬ (b : Int) < (a : Int) := by omega
                    have g3 : (a : Int) < (b : Int) := by omega
                    have HRUN := Lib.hid (runeEq_less g3)
                    by_cases h128 : (b : Int) < 128
                    · by_cases hcs : 65 ≤ (a : Int) ∧ (a : Int) ≤ 90 ∧ (b : Int) = a + 32
                      · have HC := Lib.hid (HRUN.out.trans ((lessEq_low h128).2 hcs))
                        obtain ⟨c1, c2, c3⟩ := hcs
                        have c4 : ((b : Int) == (a : Int) + 97 - 65) = true := by rw [beq_iff_eq]; omega
                        clear c3
                        go_wp2_with (first | (go_at_call 29; refine HDEC.out.mono ?_; rintro e w2 ⟨rfl, hb3⟩) | fail)
                        refine ⟨⟨p + d, tt.extract d2 tt.size, rfl, HI.out.2.2.1, (HN.out _ hb3).1, ?_, (HN.out _ hb3).2⟩, ?_⟩
                        · exact (if_pos HC.out).symm.trans HST.out
                        · rw [iterPos_of (HN.out _ hb3).1, hpos]
                          have := HI.out.2.2.2
                          omega
                      · have hcf : runeEq (a : Int) (b : Int) = false := by
                          rw [HRUN.out]
                          cases hh : lessEq (a : Int) (b : Int)
                          · rfl
                          · exact absurd ((lessEq_low h128).1 hh) hcs
                        have hres := HST.out
                        rw [if_neg (by rw [hcf]; exact Bool.false_ne_true)] at hres
                        subst hres
                        have HCS := Lib.hid hcs
                        clear hcs hcf
                        go_wp2_with (first | (go_at_call 29; refine HDEC.out.mono ?_; rintro e w2 ⟨rfl, hb3⟩) | fail)
                        all_goals first
                          | (exfalso
                             have h9 := HCS.out
                             (try simp only [beq_iff_eq] at *)
                             omega)
                          | (go_ret
                             exact ⟨rfl, (HN.out _ hb3).2⟩)
                    · have hlo : (a : Int) ≤ 2147483647 := by omega
                      have HSF := Lib.hid (fun W h => simplefold_any (a : Int) W (by omega) hlo (HE.out.below (HN.out W h).2).fold)
                      obtain ⟨B, eB⟩ : ∃ B, B = foldLoop 3 a b (foldI a) := ⟨_, rfl⟩
                      have HB := Lib.hid (And.intro eB (HRUN.out.trans ((lessEq_high h128).trans eB.symm)))
                      have hbk := Back.start (a : Int) (b : Int)
                      rw [← eB] at hbk
                      have HBK := Lib.hid hbk
                      have hfr := fold_range (r := (a : Int)) (by omega) hlo
                      have HFR := Lib.hid hfr
                      clear eB hbk hfr
                      go_wp2_with (first | (go_at_call 29; refine HDEC.out.mono ?_; rintro e w2 ⟨rfl, hb3⟩) | (go_at_call 30; refine (HSF.out _ hb3).mono ?_; rintro e w3 ⟨rfl, hb4⟩) | fail)
                      have hb34 : Below W1.heap.size W1 w3 := hb3.trans (hb4.mono hb3.size)
                      obtain ⟨Wa, eWa⟩ : ∃ Wa, Wa = wr := ⟨_, rfl⟩
                      subst eWa
                      go_loopw [13] (fun rv wr => ∃ v : Int, rv = .int .i32 v ∧ Hid (Back a b v B) ∧ Hid (-2147483648 ≤ v ∧ v ≤ 2147483647) ∧ Hid (Below W1.heap.size W1 wr)) (fun rv _ => distTo a (intOf rv))
                      case atStart => exact ⟨_, rfl, HBK, HFR, hb34⟩
                      case round =>
                        obtain ⟨v, rfl, hbk, hvr, hb5⟩ := hrel
                        by_cases hgo : v ≠ a ∧ v < b
                        · obtain ⟨q1, q2⟩ := hgo
                          have f1 : (v != (a : Int)) = true := by simpa using q1
                          have HON := Lib.hid (And.intro (hbk.out.on q1 q2) (fold_range hvr.out.1 hvr.out.2))
                          have HS2 := Lib.hid (simplefold_any v wr hvr.out.1 hvr.out.2 (HE.out.below (HN.out wr hb5.out).2).fold)
                          clear q1
                          go_wp2_with (first | (go_at_call 30; refine HS2.out.mono ?_; rintro e w6 ⟨rfl, hb6⟩) | fail)
                          exact ⟨⟨foldI v, rfl, HON.out.1.1, HON.out.2, hb5.out.trans (hb6.mono hb5.out.size)⟩, HON.out.1.2⟩
                        · have hoff := hbk.out.off hgo
                          have hrun := HB.out.2
                          by_cases hv : v = a
                          · subst hv
                            have f1 : ((a : Int) != (a : Int)) = false := by simp
                            have f2 : ((a : Int) == (b : Int)) = false := by rw [beq_eq_false_iff_ne]; omega
                            have hres := HST.out
                            rw [hrun, hoff, f2, if_neg Bool.false_ne_true] at hres
                            subst hres
                            clear hoff hrun hgo
                            go_wp2_with fail
                            go_ret
                            exact ⟨rfl, (HN.out _ hb5.out).2⟩
                          · have f1 : (v != (a : Int)) = true := by simpa using hv
                            have f3 : ¬ v < (b : Int) := fun h => hgo ⟨hv, h⟩
                            by_cases hv2 : v = b
                            · subst hv2
                              have f2 : ((b : Int) == (b : Int)) = true := by simp
                              have HRB := Lib.hid (hrun.trans (hoff.trans f2))
                              clear hoff hrun hgo hv
                              go_wp2_with fail
                              refine ⟨⟨p + d, tt.extract d2 tt.size, rfl, HI.out.2.2.1, (HN.out _ hb5.out).1, ?_, (HN.out _ hb5.out).2⟩, ?_⟩
                              · exact (if_pos HRB.out).symm.trans HST.out
                              · rw [iterPos_of (HN.out _ hb5.out).1, hpos]
                                have := HI.out.2.2.2
                                omega
                            · have f2 : (v == (b : Int)) = false := by rw [beq_eq_false_iff_ne]; exact hv2
                              have hres := HST.out
                              rw [hrun, hoff, f2, if_neg Bool.false_ne_true] at hres
                              subst hres
                              clear hoff hrun hgo hv hv2
                              go_wp2_with fail
                              go_ret
                              exact ⟨rfl, (HN.out _ hb5.out).2⟩
            · have hres := (eqU_end hp).symm.trans hq.out
              have hstop := fun ty => run_next_stop (P := Tryz.prog) wr w.heap.size s' p ty hit.out hp
              have hz : ((tt.size : Int) == 0) = RES := by
                rw [← hres, Bool.eq_iff_iff]
                simp
              clear hres hq
              go_wp2_with fail
              go_ret
              exact ⟨rfl, hb2.out⟩
      · have hres := HP.out
        rw [eqA_end hk] at hres
        first
          | have hy : ¬ (k : Int) < (t.size : Int) := by omega
          | have hy : ¬ (k : Int) < (s.size : Int) := by omega
        have hq : ((s.size : Int) == (t.size : Int)) = RES := by
          rw [← hres, Bool.eq_iff_iff]
          simp
          omega
        clear hres
        go_wp2_with fail
        go_ret
        exact ⟨rfl, Below.refl _ _⟩
end Go.Proofs.YtnoghiefpdbpbaaGreatFmt
