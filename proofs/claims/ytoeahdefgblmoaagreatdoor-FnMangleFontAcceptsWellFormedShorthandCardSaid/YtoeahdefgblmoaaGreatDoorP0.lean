/-
  The law FnMangleFontAcceptsWellFormedShorthand, walked.
-/
import Derived.Test.YtoeahdefgblmoaaGreatDoorN2
import Derived.Test.YtoeahdefgblmoaaGreatDoorM
import Derived.Test.YtoeahdefgblmoaaGreatDoorK2
namespace Go.Proofs.YtoeahdefgblmoaaGreatDoor
open Go.RowKit Go.Deep Go.PlainAid Go.Maps Go.Sort

set_option maxHeartbeats 8000000 in
set_option maxRecDepth 100000 in
theorem law_main0 (a0 a4 a5 : Option Addr) (cap0 cap4 cap5 n0 n4 n5 m1 m3 : Nat) (zs0 zs4 zs5 : List Int) (b6 : Bool) (W : World) (hE : Env0 W) (h0 : U8s W a0 zs0) (h4 : U8s W a4 zs4) (h5 : U8s W a5 zs5)
    (e0 : n0 = zs0.length) (e4 : n4 = zs4.length) (e5 : n5 = zs5.length) (l0 : n0 ≤ 4096) (l4 : n4 ≤ 4096) (l5 : n5 ≤ 65536) (p4 : 1 ≤ n4) :
    Calls Tryz.prog 4 #[.slice a0 n0 cap0, .int .u8 (m1 : Int), .bool false, .int .u8 (m3 : Int), .slice a4 n4 cap4, .slice a5 n5 cap5, .bool b6] W fun e w' => e = .returned (.bool true) ∧ Below W.heap.size W w' := by
  have HE := Lib.hid hE
  have H0 := Lib.hid h0
  have H4 := Lib.hid h4
  have H5 := Lib.hid h5
  have E0 := Lib.hid e0
  have E4 := Lib.hid e4
  have E5 := Lib.hid e5
  have i0 : (n0 : Int) ≤ 4096 := by omega
  have i4 : (n4 : Int) ≤ 4096 := by omega
  have i5 : (n5 : Int) ≤ 65536 := by omega
  have i1 : ((n4 : Int) == 0) = false := beq_eq_false_iff_ne.2 (by omega)
  clear hE h0 h4 h5 e0 e4 e5
  go_enter Tryz.func4, Tryz.ntmps4
  go_wp2_with fail
  refine (bytes_any a0 a4 a5 cap0 cap4 cap5 n0 n4 n5 m1 m3 false b6 W (by omega) (by omega) (by omega)).mono ?_
  rintro e w' ⟨⟨b, rfl, hb⟩, rfl⟩
  cases b with
  | false =>
    clear hb
    go_wp2_with fail
    go_ret
    exact ⟨rfl, Below.refl _ _⟩
  | true =>
    clear hb
    go_wp2_with fail
    refine (clone_any a0 cap0 n0 zs0 _ E0.out (by omega) H0.out).mono ?_
    rintro e w1 ⟨a0', c0', rfl, u0, b1⟩
    have U0 := Lib.hid u0
    have B1 := Lib.hid b1
    clear u0 b1
    go_wp2_with fail
    refine (clone_any a4 cap4 n4 zs4 w1 E4.out (by omega) (H4.out.below B1.out)).mono ?_
    rintro e w2 ⟨a4', c4', rfl, u4, b2'⟩
    have U4 := Lib.hid u4
    have B2 := Lib.hid (B1.out.trans (b2'.mono B1.out.size))
    have U0' := Lib.hid (U0.out.below b2')
    clear u4 b2' U0
    go_wp2_with fail
    refine (clone_any a5 cap5 n5 zs5 w2 E5.out (by omega) (H5.out.below B2.out)).mono ?_
    rintro e w3 ⟨a5', c5', rfl, u5, b3⟩
    have U5 := Lib.hid u5
    have U4' := Lib.hid (U4.out.below b3)
    have U0'' := Lib.hid (U0'.out.below b3)
    have B3 := Lib.hid (B2.out.trans (b3.mono B2.out.size))
    clear u5 b3 U4 U0' B1 B2
    obtain ⟨cap, ecap⟩ : ∃ cap, cap = n0 + 2 * n4 + 3 := ⟨_, rfl⟩
    have icap : (n0 : Int) + 2 * (n4 : Int) + 3 = (cap : Int) := by omega
    have hmk := make_row0 cap (by omega)
    have EC := Lib.hid ecap
    clear ecap
    go_upto_region 13 with fail
    obtain ⟨W4, eW⟩ : ∃ W4, W4 = (w3.alloc (.cells (madeCells #[.pointer none, .string ⟨#[]⟩, .int .i32 0, .int .u32 0, .int .u16 0, .int .u8 0, .int .u8 0] (cap * 7)) 31)).alloc (.cells (madeCells #[.pointer none, .string ⟨#[]⟩, .int .i32 0, .int .u32 0, .int .u16 0, .int .u8 0, .int .u8 0] (cap * 7)) 31) := ⟨_, rfl⟩
    have RI : Hid (RowAt W4 w3.heap.size cap []) := by rw [eW]; exact (row0 w3 cap).alloc _
    have RW : Hid (RowAt W4 (w3.heap.size + 1) cap []) := by
      rw [eW]
      have h := row0 (w3.alloc (.cells (madeCells #[.pointer none, .string ⟨#[]⟩, .int .i32 0, .int .u32 0, .int .u16 0, .int .u8 0, .int .u8 0] (cap * 7)) 31)) cap
      rw [World.size_alloc] at h
      exact h
    have B4 : Hid (Below w3.heap.size w3 W4) := by rw [eW]; exact ((Below.refl _ _).alloc (Nat.le_refl _) _).alloc (by rw [World.size_alloc]; omega) _
    rw [← eW]
    clear eW hmk
    go_wp2_with fail
    go_loopw [16, 17, 18] (fun inp wnt i wr => ∃ k : Nat, k ≤ n0 ∧ inp = .slice (some ⟨w3.heap.size, 0, none⟩) k cap ∧ wnt = .slice (some ⟨w3.heap.size + 1, 0, none⟩) (outL zs0 zs5 k).length cap ∧ i = .int .i64 k ∧ Hid (RowAt wr w3.heap.size cap (inL zs0 zs5 k)) ∧ Hid (RowAt wr (w3.heap.size + 1) cap (outL zs0 zs5 k)) ∧ Hid (Below w3.heap.size w3 wr)) (fun _ _ i _ => n0 - (intOf i).toNat)
    case atStart => exact ⟨0, Nat.zero_le _, rfl, rfl, rfl, RI, RW, B4⟩
    case round =>
      obtain ⟨k, hk, rfl, rfl, rfl, hri, hrw, hb⟩ := hrel
      by_cases hlt : k < n0
      · have hkn : (k : Int) < (n0 : Int) := by omega
        obtain ⟨b, off, ea, hc, z0, z1⟩ := U0''.out k (by rw [← E0.out]; exact hlt)
        subst ea
        obtain ⟨mk, emk⟩ : ∃ mk : Nat, zs0.getD k 0 = (mk : Int) := ⟨(zs0.getD k 0).toNat, by omega⟩
        rw [emk] at hc z0 z1
        have c0 := cell_later hb.out hc
        have HMK := Lib.hid emk
        have hol := outL_len zs0 zs5 k
        have hil := inL_len zs0 zs5 k
        have hiz := inL_succ zs0 zs5 k
        have hoz := outL_succ zs0 zs5 k
        rw [emk, Int.toNat_natCast] at hiz hoz
        obtain ⟨li, eli⟩ : ∃ li, li = inL zs0 zs5 k := ⟨_, rfl⟩
        obtain ⟨lo, elo⟩ : ∃ lo, lo = outL zs0 zs5 k := ⟨_, rfl⟩
        obtain ⟨ql, eql⟩ : ∃ ql, ql = lo.length := ⟨_, rfl⟩
        rw [← eli] at hri hil hiz
        rw [← elo] at hrw hol hoz ⊢
        rw [← eql] at hol ⊢
        obtain ⟨x, ex⟩ : ∃ x, x = wsAt zs5 k := ⟨_, rfl⟩
        rw [← ex] at hiz hoz
        have HX := Lib.hid ex
        have HIZ := Lib.hid hiz
        have HOZ := Lib.hid hoz
        have HIL := Lib.hid hil
        have HQL := Lib.hid eql
        have hcapk : k < cap ∧ ql < cap := by have := EC.out; omega
        obtain ⟨hck, hcq⟩ := hcapk
        have hbz := hb.out.size
        clear eli elo eql ex hiz hoz hil hc emk z0 z1
        go_wp2_with fail
        refine (word_any mk wr).mono ?_
        rintro e w' ⟨rfl, rfl⟩
        have hin : inW (mk % 15, x) = ⟨(pwT (mk % 15)).1, (pwT (mk % 15)).2.1, x⟩ := rfl
        have hou : outW (mk % 15, x) = if (pwT (mk % 15)).2.2.1 then [] else [⟨(pwT (mk % 15)).2.2.2.1, (pwT (mk % 15)).2.2.2.2, x⟩] := rfl
        obtain ⟨q, eq⟩ : ∃ q, q = pwT (mk % 15) := ⟨_, rfl⟩
        rw [← eq] at hin hou ⊢
        obtain ⟨kd, s, dr, kd2, s2⟩ := q
        dsimp only at hin hou ⊢
        have HIN := Lib.hid hin
        have HOU := Lib.hid hou
        clear hin hou eq
        go_wp2_with fail
        refine (ws_any a5' c5' n5 zs5 k w' E5.out (U5.out.below hb.out)).mono ?_
        rintro e w'' ⟨rfl, rfl⟩
        rw [← HX.out]
        go_wp2_with fail
        refine (tok_any kd s x w'').mono ?_
        rintro e v1 ⟨rfl, hv1⟩
        have RV := Lib.hid (hri.out.later hv1)
        have HV1 := Lib.hid hv1
        clear hv1
        cases dr with
        | true =>
          go_wp2_with (first
            | (refine wpList_append_room v1 rfl (.tmp 101) (.tmp 106) rfl w3.heap.size cap k li ⟨kd, s, x⟩ HIL.out.symm rfl RV.out rfl hck ?_
               intro v2 r2 g2 z2
               have R2 := Lib.hid r2
               have P2 := Lib.hid (push hrw.out (by omega) hb.out (Nat.le_refl _) HV1.out g2)
               clear r2 g2 z2)
            | fail)
          refine ⟨⟨k + 1, hlt, rfl, ?_, by go_num, ?_, ?_, P2.out.2⟩, by simp [intOf]; omega⟩
          · rw [HOZ.out, HOU.out, if_pos trivial, List.append_nil, ← HQL.out]
          · show RowAt _ _ _ _
            rw [HIZ.out, HIN.out]
            exact R2.out
          · show RowAt _ _ _ _
            rw [HOZ.out, HOU.out, if_pos trivial, List.append_nil]
            exact P2.out.1
        | false =>
          go_wp2_with (first
            | (refine wpList_append_room v1 rfl (.tmp 101) (.tmp 106) rfl w3.heap.size cap k li ⟨kd, s, x⟩ HIL.out.symm rfl RV.out rfl hck ?_
               intro v2 r2 g2 z2
               have R2 := Lib.hid r2
               have P2 := Lib.hid (push hrw.out (by omega) hb.out (Nat.le_refl _) HV1.out g2)
               clear r2 g2 z2)
            | fail)
          refine (tok_any kd2 s2 x v2).mono ?_
          rintro e v3 ⟨rfl, hv3⟩
          have RV3 := Lib.hid (P2.out.1.later hv3)
          have HV3 := Lib.hid hv3
          clear hv3
          go_wp2_with (first
            | (refine wpList_append_room v3 rfl (.tmp 110) (.tmp 115) rfl (w3.heap.size + 1) cap ql lo ⟨kd2, s2, x⟩ HQL.out rfl RV3.out rfl hcq ?_
               intro v4 r4 g4 z4
               have R4 := Lib.hid r4
               have P4 := Lib.hid (push R2.out (by omega) P2.out.2 (by omega) HV3.out g4)
               clear r4 g4 z4)
            | fail)
          refine ⟨⟨k + 1, hlt, rfl, ?_, by go_num, ?_, ?_, P4.out.2⟩, by simp [intOf]; omega⟩
          · rw [HOZ.out, HOU.out, if_neg Bool.false_ne_true, List.length_append, ← HQL.out]; rfl
          · show RowAt _ _ _ _
            rw [HIZ.out, HIN.out]
            exact P4.out.1
          · show RowAt _ _ _ _
            rw [HOZ.out, HOU.out, if_neg Bool.false_ne_true]
            exact R4.out
      · obtain rfl : k = n0 := by omega
        have hcapk : k + 2 * n4 + 3 = cap := EC.out.symm
        have hol := outL_len zs0 zs5 k
        have hil := inL_len zs0 zs5 k
        obtain ⟨li, eli⟩ : ∃ li, li = inL zs0 zs5 k := ⟨_, rfl⟩
        obtain ⟨lo, elo⟩ : ∃ lo, lo = outL zs0 zs5 k := ⟨_, rfl⟩
        obtain ⟨ql, eql⟩ : ∃ ql, ql = lo.length := ⟨_, rfl⟩
        rw [← eli] at hri hil
        rw [← elo] at hrw hol ⊢
        rw [← eql] at hol ⊢
        obtain ⟨x, ex⟩ : ∃ x, x = wsAt zs5 k := ⟨_, rfl⟩
        have HX := Lib.hid ex
        have HLI := Lib.hid eli
        have HLO := Lib.hid elo
        have HIL := Lib.hid hil
        have HQL := Lib.hid eql
        have hbz := hb.out.size
        clear ex eli elo eql hil
        go_wp2_with fail
        refine (size_any m1 wr).mono ?_
        rintro e w' ⟨rfl, rfl⟩
        obtain ⟨q, eq⟩ : ∃ q, q = swT (m1 % 6) := ⟨_, rfl⟩
        rw [← eq]
        obtain ⟨kd, s⟩ := q
        have HSZ := Lib.hid eq
        clear eq
        dsimp only
        go_wp2_with fail
        refine (ws_any a5' c5' n5 zs5 k w' E5.out (U5.out.below hb.out)).mono ?_
        rintro e w'' ⟨rfl, rfl⟩
        rw [← HX.out]
        go_wp2_with fail
        refine (tok_any kd s x w'').mono ?_
        rintro e v10 ⟨rfl, hv10⟩
        have RV10 := Lib.hid (hri.out.later hv10)
        have HV10 := Lib.hid hv10
        clear hv10
        go_wp2_with (first
          | (refine wpList_append_room v10 rfl (.tmp 126) (.tmp 131) rfl w3.heap.size cap k li ⟨kd, s, x⟩ HIL.out.symm rfl RV10.out rfl (by omega) ?_
             intro u10 r10 g10 z10
             have R10 := Lib.hid r10
             have P10 := Lib.hid (push hrw.out (by omega) hb.out (by omega) HV10.out g10)
             skip
             clear r10 g10 z10)
          | fail)
        refine (tok_any kd s x u10).mono ?_
        rintro e v11 ⟨rfl, hv11⟩
        have RV11 := Lib.hid (P10.out.1.later hv11)
        have HV11 := Lib.hid hv11
        clear hv11
        go_upto_region 38 with (first
          | (refine wpList_append_room v11 rfl (.tmp 133) (.tmp 138) rfl (w3.heap.size + 1) cap ql lo ⟨kd, s, x⟩ HQL.out rfl RV11.out rfl (by omega) ?_
             intro u11 r11 g11 z11
             have R11 := Lib.hid r11
             have P11 := Lib.hid (push R10.out (by omega) P10.out.2 (by omega) HV11.out g11)
             skip
             clear r11 g11 z11)
          | fail)
        obtain ⟨Y, eY⟩ : ∃ Y, Y = li ++ [⟨kd, s, x⟩] := ⟨_, rfl⟩
        obtain ⟨X, eX⟩ : ∃ X, X = lo ++ [⟨kd, s, x⟩] := ⟨_, rfl⟩
        obtain ⟨bY, ebY⟩ : ∃ bY, bY = k + 1 := ⟨_, rfl⟩
        obtain ⟨bX, ebX⟩ : ∃ bX, bX = ql + 1 := ⟨_, rfl⟩
        have RIa : Hid (RowAt u11 w3.heap.size cap Y) := by rw [eY]; exact P11.out.1
        have RWa : Hid (RowAt u11 (w3.heap.size + 1) cap X) := by rw [eX]; exact R11.out
        have BBa := Lib.hid (P11.out.2)
        have LY : Hid (Y.length = bY) := by
          show Y.length = bY
          rw [eY, ebY]
          exact (show _ = _ from by rw [List.length_append, HIL.out]; rfl)
        have LX : Hid (X.length = bX) := by
          show X.length = bX
          rw [eX, ebX]
          exact (show _ = _ from by rw [List.length_append, ← HQL.out]; rfl)
        have hYc : bY + 2 * n4 ≤ cap := by omega
        have hXc : bX + 2 * n4 ≤ cap := by omega
        have hYb : (bY : Int) ≤ 50000 := by omega
        have hXb : (bX : Int) ≤ 50000 := by omega
        rw [← ebY, ← ebX]
        have HY := Lib.hid (And.intro eY ebY)
        have HXX := Lib.hid (And.intro eX ebX)
        obtain ⟨fm, efm⟩ : ∃ fm : Nat → ByteArray, fm = fun i => fwT ((zs4.getD i 0).toNat % 4) := ⟨_, rfl⟩
        have HFM := Lib.hid efm
        clear eY eX ebY ebX efm
        go_wp2_with fail
        go_loopw [16, 17, 33] (fun inp wnt jv wr => ∃ j : Nat, j ≤ n4 ∧ inp = .slice (some ⟨w3.heap.size, 0, none⟩) (bY + (famI (wsAt zs5) fm bY j).length) cap ∧ wnt = .slice (some ⟨w3.heap.size + 1, 0, none⟩) (bX + (famI (wsAt zs5) fm bY j).length) cap ∧ jv = .int .i64 j ∧ Hid (RowAt wr w3.heap.size cap (Y ++ famI (wsAt zs5) fm bY j)) ∧ Hid (RowAt wr (w3.heap.size + 1) cap (X ++ setFam (famI (wsAt zs5) fm bY j))) ∧ Hid (Below w3.heap.size w3 wr)) (fun _ _ j _ => n4 - (intOf j).toNat)
        case atStart =>
          refine ⟨0, Nat.zero_le _, rfl, rfl, rfl, ?_, ?_, BBa.out⟩
          · show RowAt _ _ _ _
            rw [show famI (wsAt zs5) fm bY 0 = [] from rfl, List.append_nil]
            exact RIa.out
          · show RowAt _ _ _ _
            rw [show setFam (famI (wsAt zs5) fm bY 0) = [] from rfl, List.append_nil]
            exact RWa.out
        case round =>
          obtain ⟨j, hj, rfl, rfl, rfl, hri2, hrw2, hb2⟩ := hrel
          by_cases hlt : j < n4
          · obtain ⟨bb, off, ea, hc, z0, z1⟩ := U4'.out j (by rw [← E4.out]; exact hlt)
            subst ea
            obtain ⟨mk, emk⟩ : ∃ mk : Nat, zs4.getD j 0 = (mk : Int) := ⟨(zs4.getD j 0).toNat, by omega⟩
            have hfm : fm j = fwT (mk % 4) := by rw [HFM.out]; show fwT ((zs4.getD j 0).toNat % 4) = _; rw [emk, Int.toNat_natCast]
            rw [emk] at hc
            have hjn : (j : Int) < (n4 : Int) := by omega
            have hbz2 := hb2.out.size
            have HFJ := Lib.hid hfm
            have HC := Lib.hid hc
            clear z0 z1 emk hfm
            by_cases hj0 : j = 0
            · subst hj0
              rw [show (famI (wsAt zs5) fm bY 0).length = 0 from rfl, show bY + 0 = bY from rfl, show bX + 0 = bX from rfl]
              have RIb : Hid (RowAt wr w3.heap.size cap Y) := by
                have h := hri2.out
                rw [show famI (wsAt zs5) fm bY 0 = [] from rfl, List.append_nil] at h
                exact h
              have RWb : Hid (RowAt wr (w3.heap.size + 1) cap X) := by
                have h := hrw2.out
                rw [show setFam (famI (wsAt zs5) fm bY 0) = [] from rfl, List.append_nil] at h
                exact h
              have c0 := cell_later hb2.out HC.out
              rw [Nat.add_zero] at c0
              clear hc
              go_wp2_with fail
              refine (fam_any mk _).mono ?_
              rintro e fw ⟨rfl, rfl⟩
              rw [← HFJ.out]
              obtain ⟨fs, efs⟩ : ∃ fs, fs = fm 0 := ⟨_, rfl⟩
              rw [← efs]
              have HFS := Lib.hid efs
              clear efs c0
              go_wp2_with fail
              refine (ws_any a5' c5' n5 zs5 (bY) fw E5.out (U5.out.below hb2.out)).mono ?_
              rintro e g1w ⟨rfl, rfl⟩
              obtain ⟨g1, eg1⟩ : ∃ x, x = wsAt zs5 (bY) := ⟨_, rfl⟩
              rw [← eg1]
              have Hg1 := Lib.hid eg1
              clear eg1
              go_wp2_with fail
              refine (tok_any 29 fs g1 g1w).mono ?_
              rintro e v12 ⟨rfl, hv12⟩
              have RV12 := Lib.hid (RIb.out.later hv12)
              have HV12 := Lib.hid hv12
              clear hv12
              go_wp2_with (first
                | (refine wpList_append_room v12 rfl (.tmp 223) (.tmp 227) rfl w3.heap.size cap bY Y ⟨29, fs, g1⟩ LY.out.symm rfl RV12.out rfl (by omega) ?_
                   intro u12 r12 g12 z12
                   have R12 := Lib.hid r12
                   have P12 := Lib.hid (push RWb.out (by omega) hb2.out (by omega) HV12.out g12)
                   skip
                   clear r12 g12 z12)
                | fail)
              refine (tok_any 29 fs (bits .or .u8 g1 1) u12).mono ?_
              rintro e v13 ⟨rfl, hv13⟩
              have RV13 := Lib.hid (P12.out.1.later hv13)
              have HV13 := Lib.hid hv13
              clear hv13
              go_wp2_with (first
                | (refine wpList_append_room v13 rfl (.tmp 233) (.tmp 237) rfl (w3.heap.size + 1) cap bX X ⟨29, fs, (bits .or .u8 g1 1)⟩ LX.out.symm rfl RV13.out rfl (by omega) ?_
                   intro u13 r13 g13 z13
                   have R13 := Lib.hid r13
                   have P13 := Lib.hid (push R12.out (by omega) P12.out.2 (by omega) HV13.out g13)
                   skip
                   clear r13 g13 z13)
                | fail)
              refine ⟨⟨1, hlt, rfl, rfl, rfl, ?_, ?_, P13.out.2⟩, by simp [intOf]; omega⟩
              · show RowAt _ _ _ (Y ++ [⟨29, fm 0, wsAt zs5 bY⟩])
                rw [← HFS.out, ← Hg1.out]
                exact P13.out.1
              · show RowAt _ _ _ (X ++ [⟨29, fm 0, bits .or .u8 (wsAt zs5 bY) 1⟩])
                rw [← HFS.out, ← Hg1.out]
                exact R13.out
            · obtain ⟨i, rfl⟩ : ∃ i, j = i + 1 := ⟨j - 1, by omega⟩
              have hF := famI_len (wsAt zs5) fm bY i
              have hFs := setFam_len (famI (wsAt zs5) fm bY (i + 1))
              have hFa := fun r => setFam_append (famI (wsAt zs5) fm bY (i + 1)) r (famI_ne (wsAt zs5) fm bY i)
              have hnx : famI (wsAt zs5) fm bY (i + 1 + 1) = famI (wsAt zs5) fm bY (i + 1) ++ [⟨10, ⟨#[44]⟩, wsAt zs5 (bY + 2 * i + 1)⟩, ⟨29, fm (i + 1), wsAt zs5 (bY + 2 * i + 2)⟩] := rfl
              rw [hF] at hFs ⊢
              obtain ⟨F, eF⟩ : ∃ F, F = famI (wsAt zs5) fm bY (i + 1) := ⟨_, rfl⟩
              rw [← eF] at hri2 hrw2 hF hFs hFa hnx
              obtain ⟨cY, ecY⟩ : ∃ cY, cY = bY + (2 * i + 1) := ⟨_, rfl⟩
              obtain ⟨cX, ecX⟩ : ∃ cX, cX = bX + (2 * i + 1) := ⟨_, rfl⟩
              rw [← ecY, ← ecX]
              have hcY : (Y ++ F).length = cY := by rw [List.length_append, LY.out, hF, ecY]
              have hcX : (X ++ setFam F).length = cX := by rw [List.length_append, LX.out, hFs, ecX]
              have hcYc : cY + 2 ≤ cap := by omega
              have hcXc : cX + 2 ≤ cap := by omega
              have hcYb : (cY : Int) ≤ 90000 := by omega
              have hcXb : (cX : Int) ≤ 90000 := by omega
              have HCY := Lib.hid hcY
              have HCX := Lib.hid hcX
              have HNX := Lib.hid (And.intro hnx (And.intro hFa (And.intro ecY (And.intro ecX (And.intro hF eF)))))
              have c0 := cell_later hb2.out HC.out
              clear hc hF hFs hFa hnx eF hcY hcX ecY ecX hj0
              go_wp2_with fail
              refine (ws_any a5' c5' n5 zs5 (cY) wr E5.out (U5.out.below hb2.out)).mono ?_
              rintro e g1w ⟨rfl, rfl⟩
              obtain ⟨g1, eg1⟩ : ∃ x, x = wsAt zs5 (cY) := ⟨_, rfl⟩
              rw [← eg1]
              have Hg1 := Lib.hid eg1
              clear eg1
              go_wp2_with fail
              refine (tok_any 10 ⟨#[44]⟩ g1 g1w).mono ?_
              rintro e v14 ⟨rfl, hv14⟩
              have RV14 := Lib.hid (hri2.out.later hv14)
              have HV14 := Lib.hid hv14
              clear hv14
              go_wp2_with (first
                | (refine wpList_append_room v14 rfl (.tmp 204) (.tmp 207) rfl w3.heap.size cap cY (Y ++ F) ⟨10, ⟨#[44]⟩, g1⟩ HCY.out.symm rfl RV14.out rfl (by omega) ?_
                   intro u14 r14 g14 z14
                   have R14 := Lib.hid r14
                   have P14 := Lib.hid (push hrw2.out (by omega) hb2.out (by omega) HV14.out g14)
                   skip
                   clear r14 g14 z14)
                | fail)
              refine (tok_any 10 ⟨#[44]⟩ g1 u14).mono ?_
              rintro e v15 ⟨rfl, hv15⟩
              have RV15 := Lib.hid (P14.out.1.later hv15)
              have HV15 := Lib.hid hv15
              clear hv15
              go_wp2_with (first
                | (refine wpList_append_room v15 rfl (.tmp 209) (.tmp 212) rfl (w3.heap.size + 1) cap cX (X ++ setFam F) ⟨10, ⟨#[44]⟩, g1⟩ HCX.out.symm rfl RV15.out rfl (by omega) ?_
                   intro u15 r15 g15 z15
                   have R15 := Lib.hid r15
                   have P15 := Lib.hid (push R14.out (by omega) P14.out.2 (by omega) HV15.out g15)
                   have cf := cell_later P15.out.2 HC.out
                   clear r15 g15 z15)
                | fail)
              refine (fam_any mk _).mono ?_
              rintro e fw ⟨rfl, rfl⟩
              rw [← HFJ.out]
              obtain ⟨fs, efs⟩ : ∃ fs, fs = fm (i + 1) := ⟨_, rfl⟩
              rw [← efs]
              have HFS := Lib.hid efs
              clear efs c0 cf
              go_wp2_with fail
              refine (ws_any a5' c5' n5 zs5 (cY + 1) fw E5.out (U5.out.below P15.out.2)).mono ?_
              rintro e g2w ⟨rfl, rfl⟩
              obtain ⟨g2, eg2⟩ : ∃ x, x = wsAt zs5 (cY + 1) := ⟨_, rfl⟩
              rw [← eg2]
              have Hg2 := Lib.hid eg2
              clear eg2
              go_wp2_with fail
              refine (tok_any 29 fs g2 g2w).mono ?_
              rintro e v16 ⟨rfl, hv16⟩
              have RV16 := Lib.hid (P15.out.1.later hv16)
              have HV16 := Lib.hid hv16
              clear hv16
              go_wp2_with (first
                | (refine wpList_append_room v16 rfl (.tmp 223) (.tmp 227) rfl w3.heap.size cap (cY + 1) (Y ++ F ++ [⟨10, ⟨#[44]⟩, g1⟩]) ⟨29, fs, g2⟩ (by rw [List.length_append, HCY.out]; rfl) rfl RV16.out rfl (by omega) ?_
                   intro u16 r16 g16 z16
                   have R16 := Lib.hid r16
                   have P16 := Lib.hid (push R15.out (by omega) P15.out.2 (by omega) HV16.out g16)
                   skip
                   clear r16 g16 z16)
                | fail)
              refine (tok_any 29 fs g2 u16).mono ?_
              rintro e v17 ⟨rfl, hv17⟩
              have RV17 := Lib.hid (P16.out.1.later hv17)
              have HV17 := Lib.hid hv17
              clear hv17
              go_wp2_with (first
                | (refine wpList_append_room v17 rfl (.tmp 233) (.tmp 237) rfl (w3.heap.size + 1) cap (cX + 1) (X ++ setFam F ++ [⟨10, ⟨#[44]⟩, g1⟩]) ⟨29, fs, g2⟩ (by rw [List.length_append, HCX.out]; rfl) rfl RV17.out rfl (by omega) ?_
                   intro u17 r17 g17 z17
                   have R17 := Lib.hid r17
                   have P17 := Lib.hid (push R16.out (by omega) P16.out.2 (by omega) HV17.out g17)
                   skip
                   clear r17 g17 z17)
                | fail)
              have hn0 := HNX.out.1
              rw [show bY + 2 * i + 1 = cY by rw [HNX.out.2.2.1]; omega, show bY + 2 * i + 2 = cY + 1 by rw [HNX.out.2.2.1]; omega, ← Hg1.out, ← Hg2.out, ← HFS.out] at hn0
              have hl2 : (F ++ [(⟨10, ⟨#[44]⟩, g1⟩ : TK), ⟨29, fs, g2⟩]).length = 2 * i + 1 + 2 := by rw [List.length_append, HNX.out.2.2.2.2.1]; rfl
              refine ⟨⟨i + 1 + 1, hlt, ?_, ?_, by go_num, ?_, ?_, P17.out.2⟩, by simp [intOf]; omega⟩
              · rw [hn0, hl2, HNX.out.2.2.1]; rfl
              · rw [hn0, hl2, HNX.out.2.2.2.1]; rfl
              · show RowAt _ _ _ _
                rw [hn0, show Y ++ (F ++ [(⟨10, ⟨#[44]⟩, g1⟩ : TK), ⟨29, fs, g2⟩]) = Y ++ F ++ [⟨10, ⟨#[44]⟩, g1⟩] ++ [⟨29, fs, g2⟩] by simp]
                exact P17.out.1
              · show RowAt _ _ _ _
                rw [hn0, HNX.out.2.1, show X ++ (setFam F ++ [(⟨10, ⟨#[44]⟩, g1⟩ : TK), ⟨29, fs, g2⟩]) = X ++ setFam F ++ [⟨10, ⟨#[44]⟩, g1⟩] ++ [⟨29, fs, g2⟩] by simp]
                exact R17.out
          · obtain rfl : j = n4 := by omega
            obtain ⟨F, eF⟩ : ∃ F, F = famI (wsAt zs5) fm bY j := ⟨_, rfl⟩
            have hFl : F.length = 2 * j - 1 := by
              obtain ⟨i, rfl⟩ : ∃ i, j = i + 1 := ⟨j - 1, by omega⟩
              rw [eF, famI_len]; omega
            rw [← eF] at hri2 hrw2 ⊢
            have HEF := Lib.hid eF
            obtain ⟨nn, enn⟩ : ∃ nn, nn = bY + F.length := ⟨_, rfl⟩
            obtain ⟨nw, enw⟩ : ∃ nw, nw = bX + F.length := ⟨_, rfl⟩
            rw [← enn, ← enw]
            have hLn : nn = (Y ++ F).length := by rw [List.length_append, LY.out, enn]
            have hXn : (X ++ setFam F).length = nw := by rw [List.length_append, LX.out, setFam_len, enw]
            have hEr : Env0 wr := (HE.out.below B3.out).below hb2.out
            have hpl := preL_len zs0 zs5 k
            have hbY : bY = k + 1 := HY.out.2
            have hsz := size_known (m1 % 6) (Nat.mod_lt _ (by decide))
            have hskd : kd = (swT (m1 % 6)).1 := congrArg Prod.fst HSZ.out
            have hss : s = (swT (m1 % 6)).2 := congrArg Prod.snd HSZ.out
            rw [← hskd, ← hss] at hsz
            have hYe : Y ++ F = inL zs0 zs5 k ++ ([(⟨kd, s, x⟩ : TK)] ++ F) := by rw [HY.out.1, HLI.out, List.append_assoc]
            have hform : Form (Y ++ F) (preL zs0 zs5 k) ⟨kd, s, x⟩ (szL (m1 % 6)) := by
              refine ⟨fun i hi => ?_, pre_num zs0 zs5 k, by rw [hpl]; omega, ?_, fun _ => hsz.1, hsz.2.1, fun _ => ⟨hsz.1, hsz.2.2⟩⟩
              · rw [hYe]; exact inL_at zs0 zs5 k i hi _
              · rw [hYe, hpl, List.getElem?_append_right (by rw [inL_len]; exact Nat.le_refl _), inL_len, Nat.sub_self]; rfl
            have hfams : Fams (Y ++ F) ((preL zs0 zs5 k).length + 1) j := by
              rw [hpl, ← hbY, eF]
              exact fams_of (wsAt zs5) fm bY Y j p4 LY.out (fun i _ => by rw [HFM.out]; exact fw_known _ (Nat.mod_lt _ (by decide)))
            have hout : outP (preL zs0 zs5 k) (preL zs0 zs5 k).length ++ [(⟨kd, s, x⟩ : TK)] ++ setFam (((Y ++ F).drop ((preL zs0 zs5 k).length + 1)).take (2 * j - 1)) = X ++ setFam F := by
              rw [outP_all, hpl, ← hbY, eF, fam_drop (wsAt zs5) fm bY Y j p4 LY.out, HXX.out.1, HLO.out]
            have hz : ∀ W' p0, Below wr.heap.size wr W' → W'.cell? ⟨p0, 50, none⟩ = some (.bool b6) → Calls Tryz.prog 17 #[.pointer (some ⟨p0, 0, none⟩), .slice (some ⟨w3.heap.size, 0, none⟩) nn cap] W' (ZPost W' (X ++ setFam F)) := fun W' p0 hW _ => by
              have hm := mangle_plain p0 w3.heap.size cap nn cap j (Y ++ F) (preL zs0 zs5 k) ⟨kd, s, x⟩ (szL (m1 % 6)) W' ⟨hri2.out.later hW, (hEr.below hW).kw, (hEr.below hW).gf, (hEr.below hW).tabs⟩ hform hLn (by omega) (by omega) hfams p4 (by omega) (by rw [← hLn, hpl]; omega)
              rw [hout] at hm
              exact hm.mono fun e w9 ⟨T', c', h1, h2, _, h4, h5⟩ => ⟨T', c', h1, h2, h4, h5⟩
            have HZ := Lib.hid hz
            have HXN := Lib.hid hXn
            have hnwb : nw ≤ 1000000 := by omega
            clear hz hout hfams hform hYe hsz hskd hss hEr hLn hXn enn enw eF hFl
            go_wp2_with fail
            refine (zz_any wr (.slice (some ⟨w3.heap.size, 0, none⟩) nn cap) b6 (X ++ setFam F) HZ.out).mono ?_
            rintro e w9 ⟨T', c', rfl, hT', hR', hB'⟩
            rw [HXN.out]
            have HR9 := Lib.hid hR'
            have HB9 := Lib.hid hB'
            clear hT' hR' hB'
            go_wp2_with fail
            refine (same_any T' (w3.heap.size + 1) c' cap nw (X ++ setFam F) w9 HXN.out.symm hnwb HR9.out (hrw2.out.later HB9.out)).mono ?_
            rintro e w10 ⟨rfl, hb10⟩
            have HBA := Lib.hid (B3.out.trans ((hb2.out.trans ((HB9.out.trans (hb10.mono HB9.out.size)).mono hb2.out.size)).mono B3.out.size))
            clear hb10
            go_wp2_with fail
            go_ret
            exact ⟨rfl, HBA.out⟩
end Go.Proofs.YtoeahdefgblmoaaGreatDoor
