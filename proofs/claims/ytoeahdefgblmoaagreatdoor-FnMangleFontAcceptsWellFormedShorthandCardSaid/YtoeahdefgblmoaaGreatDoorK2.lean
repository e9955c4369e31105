/-
  mangleFont on a well-formed shorthand with a line height.
-/
import Derived.Test.YtoeahdefgblmoaaGreatDoorK
namespace Go.Proofs.YtoeahdefgblmoaaGreatDoor
open Go.RowKit Go.Deep Go.PlainAid Go.Maps Go.Sort

/-- The size, the slash and the line height, as they come out. -/
def lineOut (mn : Bool) (sz s t : TK) : List TK := if mn then [⟨sz.kd, sz.s, bits .and .u8 sz.ws 253⟩, ⟨s.kd, s.s, 0⟩, ⟨t.kd, t.s, bits .and .u8 t.ws 254⟩] else [sz, s, t]

section
variable {w : World} {T cap : Nat} {l0 : List TK} {x y z : TK}
theorem three_at (l0 : List TK) (x y z : TK) : (l0 ++ [x] ++ [y, z])[l0.length]? = some x ∧ (l0 ++ [x] ++ [y, z])[l0.length + 1]? = some y ∧ (l0 ++ [x] ++ [y, z])[l0.length + 2]? = some z := by
  rw [List.append_assoc]
  refine ⟨?_, ?_, ?_⟩ <;> rw [List.getElem?_append_right (by omega)]
  · rw [Nat.sub_self]; rfl
  · rw [show l0.length + 1 - l0.length = 1 by omega]; rfl
  · rw [show l0.length + 2 - l0.length = 2 by omega]; rfl
theorem row3 (h : RowAt w T cap (l0 ++ [x] ++ [y, z])) : w.cell? ⟨T, l0.length * 7 + 6, none⟩ = some (.int .u8 x.ws) ∧ w.cell? ⟨T, (l0.length + 1) * 7 + 6, none⟩ = some (.int .u8 y.ws) ∧ w.cell? ⟨T, (l0.length + 2) * 7 + 6, none⟩ = some (.int .u8 z.ws) := by
  obtain ⟨e0, e1, e2⟩ := three_at l0 x y z
  obtain ⟨i0, j0⟩ := List.getElem?_eq_some_iff.1 e0
  obtain ⟨i1, j1⟩ := List.getElem?_eq_some_iff.1 e1
  obtain ⟨i2, j2⟩ := List.getElem?_eq_some_iff.1 e2
  have c0 := (h.cells _ i0).2.2.2.2.2.2
  have c1 := (h.cells _ i1).2.2.2.2.2.2
  have c2 := (h.cells _ i2).2.2.2.2.2.2
  rw [j0] at c0
  rw [j1] at c1
  rw [j2] at c2
  exact ⟨c0, c1, c2⟩
theorem set_mid (l0 : List TK) (x y z v : TK) : (l0 ++ [x] ++ [y, z]).set l0.length v = l0 ++ [v] ++ [y, z] ∧ (l0 ++ [x] ++ [y, z]).set (l0.length + 1) v = l0 ++ [x] ++ [v, z] ∧ (l0 ++ [x] ++ [y, z]).set (l0.length + 2) v = l0 ++ [x] ++ [y, v] := by
  simp [List.append_assoc]
theorem set3 (h : RowAt w T cap (l0 ++ [x] ++ [y, z])) (a b c : Int) :
    RowAt (((w.setCell ⟨T, l0.length * 7 + 6, none⟩ (.int .u8 a)).setCell ⟨T, (l0.length + 1) * 7 + 6, none⟩ (.int .u8 b)).setCell ⟨T, (l0.length + 2) * 7 + 6, none⟩ (.int .u8 c)) T cap (l0 ++ [⟨x.kd, x.s, a⟩] ++ [⟨y.kd, y.s, b⟩, ⟨z.kd, z.s, c⟩]) := by
  obtain ⟨i0, j0⟩ := List.getElem?_eq_some_iff.1 (three_at l0 x y z).1
  have h1 := h.setWs _ i0 a
  rw [j0, (set_mid l0 x y z _).1] at h1
  obtain ⟨i1, j1⟩ := List.getElem?_eq_some_iff.1 (three_at l0 ⟨x.kd, x.s, a⟩ y z).2.1
  have h2 := h1.setWs _ i1 b
  rw [j1, (set_mid l0 _ y z _).2.1] at h2
  obtain ⟨i2, j2⟩ := List.getElem?_eq_some_iff.1 (three_at l0 ⟨x.kd, x.s, a⟩ ⟨y.kd, y.s, b⟩ z).2.2
  have h3 := h2.setWs _ i2 c
  rw [j2, (set_mid l0 _ _ z _).2.2] at h3
  exact h3
end

set_option maxHeartbeats 8000000 in
set_option maxRecDepth 100000 in
theorem mangle_line (p0 T capT n cap m : Nat) (mn : Bool) (L : List TK) (pre : List (Nat × Int)) (sz : TK) (sl ss ls : ByteArray) (sw lk lw : Int) (w0 : World) (hE : Env w0 T capT L) (hF : Form L pre sz sl) (hn : n = L.length) (hc : n < cap) (hcap : cap ≤ 100000)
    (hmn : w0.cell? ⟨p0, 50, none⟩ = some (.bool mn)) (h1 : L[pre.length + 1]? = some ⟨24, ss, sw⟩) (h2 : L[pre.length + 2]? = some ⟨lk, ls, lw⟩) (hf : Fams L (pre.length + 3) m) (hm : 1 ≤ m) (hm2 : m ≤ 4096) (hlen : L.length = pre.length + 3 + (2 * m - 1)) :
    Calls Tryz.prog 17 #[.pointer (some ⟨p0, 0, none⟩), .slice (some ⟨T, 0, none⟩) n cap] w0 (MPost w0 (outP pre pre.length ++ lineOut mn sz ⟨24, ss, sw⟩ ⟨lk, ls, lw⟩ ++ setFam ((L.drop (pre.length + 3)).take (2 * m - 1)))) := by
  have HFA := Lib.hid hf
  have HLE := Lib.hid hlen
  have H12 := Lib.hid (And.intro h1 h2)
  have HMN := Lib.hid hmn
  have HNL := Lib.hid (hn.trans hlen)
  clear hf hlen h1 h2 hmn
  have HE := Lib.hid hE
  have HF := Lib.hid hF
  have HN := Lib.hid hn
  have hnp : pre.length < n := by rw [hn]; exact (List.getElem?_eq_some_iff.1 hF.size).1
  have hn4 := hF.len
  clear hE hF hn
  go_enter Tryz.func17, Tryz.ntmps17
  go_upto_block 0 with fail
  refine wp_block ?_
  refine wp_loop (Inv pre w0 (.pointer (some ⟨p0, 0, none⟩)) T n cap) (fun a _ => pre.length + 1 - intAt a 6)
    ⟨0, none, 0, Nat.zero_le _, ⟨rfl, rfl⟩, rfl, rfl, rfl, rfl, World.ownsRow_nil _ _ _ _, Below.refl _ _⟩ ?_
  rintro a w ⟨k, a5, c5, hk, hent⟩
  obtain ⟨xs, rfl, hxs⟩ := hent.fr.lit
  have x0 := hxs 0 _ (by omega) hent.e0
  have x1 := hxs 1 _ (by omega) hent.e1
  have x5 := hxs 5 _ (by omega) hent.e5
  have x6 := hxs 6 _ (by omega) hent.e6
  have HO := Lib.hid hent.own
  have HB := Lib.hid hent.bel
  clear hxs hent
  simp only [fr, x0, x1, x5, x6]
  clear x0 x1 x5 x6
  have hkn : (k : Int) < (n : Int) := by omega
  by_cases hlt : k < pre.length
  · obtain ⟨nt, hnt, hal⟩ : ∃ nt, L[k + 1]? = some nt ∧ (nt.kd = 26 → Low nt.s sl ∧ noAngle sl) := by
      by_cases h1 : k + 1 < pre.length
      · exact ⟨_, HF.out.words (k + 1) h1, fun h => absurd h (pw_kd _ (HF.out.num _ (List.getElem_mem h1)))⟩
      · refine ⟨sz, ?_, HF.out.ang⟩
        have h2 : k + 1 = pre.length := by omega
        rw [h2]
        exact HF.out.size
    have hkt := HF.out.words k hlt
    have hc15 := HF.out.num _ (List.getElem_mem hlt)
    have hsucc := outP_succ pre k hlt
    obtain ⟨x, ex⟩ : ∃ x, x = pre[k] := ⟨_, rfl⟩
    rw [← ex] at hkt hc15 hsucc
    obtain ⟨c, ws⟩ := x
    have HS := Lib.hid hsucc
    have HT := Lib.hid (And.intro hnt (And.intro hal hkt))
    have hol := outP_len pre k
    have HOL := Lib.hid hol
    clear ex hsucc hnt hal hkt hol
    go_upto_block 1 with fail
    refine word_wp rfl _ _ w w0 (.pointer (some ⟨p0, 0, none⟩)) T capT n cap k L (outP pre k) a5 c5 c ws HE.out ⟨⟨rfl, rfl⟩, rfl, rfl, rfl, rfl, HO.out, HB.out⟩ HN.out (by omega) (by omega) hc15 HT.out.2.2 (by have := HOL.out; omega) nt sl HT.out.1 HT.out.2.1 ?_
    intro a' W' a5' c5' hent
    obtain ⟨xs, rfl, hxs⟩ := hent.fr.lit
    have x0 := hxs 0 _ (by omega) hent.e0
    have x1 := hxs 1 _ (by omega) hent.e1
    have x5 := hxs 5 _ (by omega) hent.e5
    have x6 := hxs 6 _ (by omega) hent.e6
    have HO' := Lib.hid hent.own
    have HB' := Lib.hid hent.bel
    clear hxs hent
    simp only [fr, x0, x1, x5, x6]
    clear x0 x1 x5 x6
    have hkb : (k : Int) ≤ 100000 := by omega
    go_wp2_with fail
    refine ⟨⟨k + 1, a5', c5', hlt, ⟨rfl, rfl⟩, rfl, rfl, ?_, ?_, ?_, HB'.out⟩, ?_⟩
    · rw [HS.out, List.length_append]; rfl
    · rfl
    · rw [HS.out]; exact HO'.out
    · show pre.length + 1 - ((k : Int) + 1).toNat < pre.length + 1 - (k : Int).toNat
      omega
  · obtain rfl : k = pre.length := by omega
    obtain ⟨hkl, hke⟩ := List.getElem?_eq_some_iff.1 HF.out.size
    obtain ⟨q0, q1, q2, q3, q4, q5, q6⟩ := (HE.out.row.below HB.out HE.out.row.lt).cells pre.length hkl
    rw [hke] at q1 q5 q6
    clear hke hkl
    go_upto_region 6 with fail
    obtain ⟨W2, eW⟩ : ∃ W2, W2 = w.alloc (.cells #[.pointer none, .string sz.s, .int .i32 0, .int .u32 0, .int .u16 0, .int .u8 sz.kd, .int .u8 sz.ws] 31) := ⟨_, rfl⟩
    have hA : Box W2 w.heap.size sz := by rw [eW]; exact Box.made w sz
    have hB2 : Below w.heap.size w W2 := by rw [eW]; exact (Below.refl _ _).alloc (Nat.le_refl _) _
    rw [← eW]
    clear eW q0 q1 q2 q3 q4 q5 q6
    have hbs := HB.out.size
    have HA := Lib.hid hA
    have HB2 := Lib.hid hB2
    obtain ⟨t0, t1, t2, t3, t4, t5, t6, tf⟩ := hA
    clear hB2
    go_wp2_with fail
    refine (fontsize_any sz sl HF.out.low W2 (HE.out.kw.below (HB.out.trans (HB2.out.mono hbs)))).mono ?_
    rintro e w1 ⟨rfl, hb1⟩
    rw [HF.out.isz]
    have HB1 := Lib.hid (HB2.out.trans (hb1.mono HB2.out.size))
    have HO1 := Lib.hid (own_later HO.out HB1.out)
    have HBB := Lib.hid (HB.out.trans (HB1.out.mono hbs))
    clear hb1 t0 t1 t2 t3 t4 t5 t6 tf HA HB2 HO HB HB1
    obtain ⟨hkl, hke⟩ := List.getElem?_eq_some_iff.1 HF.out.size
    obtain ⟨q0, q1, q2, q3, q4, q5, q6⟩ := (HE.out.row.below HBB.out HE.out.row.lt).cells pre.length hkl
    rw [hke] at q1 q5 q6
    have hne : ((pre.length : Int) == (n : Int)) = false := beq_eq_false_iff_ne.2 (by omega)
    have hs1 := HBB.out.size
    have hol := outP_len pre pre.length
    clear hke hkl
    obtain ⟨l0, el0⟩ : ∃ l0, l0 = outP pre pre.length := ⟨_, rfl⟩
    rw [← el0] at HO1 hol ⊢
    have HL0 := Lib.hid el0
    clear el0
    go_upto_region 41 with (first
      | (refine wpList_append_tok w1 rfl (.tmp 116) (.tmp 121) rfl w0.heap.size (.slice a5 l0.length c5) l0 sz rfl HO1.out rfl (by omega) (by omega) ?_
         intro a6 c6 w2 hown2 hgr2
         have HO2 := Lib.hid hown2
         have HG2 := Lib.hid hgr2
         clear hown2 hgr2)
      | fail)
    have HB2 := Lib.hid (HBB.out.trans (below_grown (w := w1) ((Below.refl _ _).alloc (by omega) _) HG2.out HO1.out (by omega)))
    obtain ⟨hgl, hge⟩ := List.getElem?_eq_some_iff.1 H12.out.1
    obtain ⟨hhl, hhe⟩ := List.getElem?_eq_some_iff.1 H12.out.2
    clear q0 q1 q2 q3 q4 q5 q6
    obtain ⟨q0, q1, q2, q3, q4, q5, q6⟩ := (HE.out.row.below HB2.out HE.out.row.lt).cells (pre.length + 1) hgl
    obtain ⟨r0, r1, r2, r3, r4, r5, r6⟩ := (HE.out.row.below HB2.out HE.out.row.lt).cells (pre.length + 2) hhl
    rw [hge] at q1 q5 q6
    rw [hhe] at r1 r5 r6
    dsimp only at q1 q5 q6 r1 r5 r6
    have hnl := HNL.out
    have hnp1 : (pre.length : Int) ≤ 4096 := by omega
    have hnp2 : (pre.length : Int) + 2 < (n : Int) := by omega
    have hnp3 : (n : Int) ≤ (cap : Int) := by omega
    have hnp4 : ¬ cap = pre.length + 3 := by omega
    have hnp5 : ((pre.length : Int) + 2 == (n : Int)) = false := beq_eq_false_iff_ne.2 (by omega)
    have hb1 : (pre.length : Int) + 1 < (pre.length : Int) + 3 + ((2 * m - 1 : Nat) : Int) := by omega
    have hb2 : (pre.length : Int) + 2 < (pre.length : Int) + 3 + ((2 * m - 1 : Nat) : Int) := by omega
    have hb3 : (pre.length : Int) + 1 + 1 < (pre.length : Int) + 3 + ((2 * m - 1 : Nat) : Int) := by omega
    have hb4 : ((pre.length : Int) + 1).toNat = pre.length + 1 := by omega
    have hb5 : ((pre.length : Int) + 2).toNat = pre.length + 2 := by omega
    have hb6 : (0 : Int) ≤ (pre.length : Int) + 1 := by omega
    have hb7 : (0 : Int) ≤ (pre.length : Int) + 2 := by omega
    have hb8 : (0 : Int) ≤ (pre.length : Int) + 1 + 1 := by omega
    have hnp6 : (pre.length : Int) + 1 < (n : Int) := by omega
    have hnp7 : (pre.length : Int) + 3 ≤ (n : Int) := by omega
    clear hnl hb1 hb2 hb3
    have hw : IntKind.i64.wrap ((pre.length : Int) + 1 + 1) = (pre.length : Int) + 2 := by rw [i64_is]; unfold RowKit.wrap64; omega
    have hw3 : IntKind.i64.wrap ((pre.length : Int) + 1 + 2) = (pre.length : Int) + 3 := by rw [i64_is]; unfold RowKit.wrap64; omega
    have hz2 := HB2.out.size
    have el : (l0 ++ [sz]).length = l0.length + 1 := by rw [List.length_append]; rfl
    have HEL := Lib.hid el
    have HOd : Hid (w2.drew.ownsRow w0.heap.size 31 7 (.slice a6 (l0.length + 1) c6) (l0 ++ [sz]).length (rowT (l0 ++ [sz]))) := HO2.out
    clear hge hgl hhe hhl el
    go_upto_region 44 with fail
    go_region_law (first
      | (refine step_append_two w2.drew rfl (.tmp 143) (.tmp 153) rfl w0.heap.size (.slice a6 (l0.length + 1) c6) (l0 ++ [sz]) ⟨24, ss, sw⟩ ⟨lk, ls, lw⟩ rfl HOd.out rfl (by rw [HEL.out]; omega) (by show w0.heap.size ≤ w2.heap.size; omega) ?_
         intro a7 c7 w4 hown4 hgr4
         have HO4 := Lib.hid hown4
         have HG4 := Lib.hid hgr4
         clear hown4 hgr4))
    all_goals
      go_upto_region 46 with fail
      have HB4 : Hid (Below w0.heap.size w0 w4) := HB2.out.trans (below_grown (w := w2) ((show Below w0.heap.size w2 w2.drew from (Below.refl _ w2).drew).alloc (by show w0.heap.size ≤ w2.heap.size; omega) _) HG4.out HO2.out (by omega))
      obtain ⟨T5, c5', ev, hT5, hc5, hr5⟩ := RowAt.of_own (l := l0 ++ [sz] ++ [⟨24, ss, sw⟩, ⟨lk, ls, lw⟩]) HO4.out (by rw [List.length_append, HEL.out]; omega)
      rw [HEL.out] at ev
      injection ev with ea _ ec
      subst ea ec
      have HR5 := Lib.hid hr5
      have hmn := cell_later HB4.out HMN.out
      clear hr5
      have ez : ∀ W : World, W = W := fun _ => rfl
      clear ez q0 q1 q2 q3 q4 q5 q6 r0 r1 r2 r3 r4 r5 r6
      obtain ⟨q, eq⟩ : ∃ q, q = l0.length + 1 + 2 := ⟨_, rfl⟩
      obtain ⟨i0, ei0⟩ : ∃ i0, i0 = l0.length := ⟨_, rfl⟩
      obtain ⟨i1, ei1⟩ : ∃ i1, i1 = l0.length + 1 := ⟨_, rfl⟩
      obtain ⟨i2, ei2⟩ : ∃ i2, i2 = l0.length + 2 := ⟨_, rfl⟩
      obtain ⟨g0, g1, g2⟩ := row3 HR5.out
      dsimp only at g0 g1 g2
      rw [← ei0] at g0
      rw [← ei1] at g1
      rw [← ei2] at g2
      have gf0 := HR5.out.fz (i0 * 7 + 6)
      have gf1 := HR5.out.fz (i1 * 7 + 6)
      have gf2 := HR5.out.fz (i2 * 7 + 6)
      rw [← eq]
      have HQI := Lib.hid (And.intro eq (And.intro ei0 (And.intro ei1 ei2)))
      have hq1 : (q : Int) ≤ 5000 := by omega
      have s0 : (q : Int) - 3 = (i0 : Int) := by omega
      have s1 : (q : Int) - 2 = (i1 : Int) := by omega
      have s2 : (q : Int) - 1 = (i2 : Int) := by omega
      have v0' : (i0 : Int) < (q : Int) := by omega
      have v1' : (i1 : Int) < (q : Int) := by omega
      have v2' : (i2 : Int) < (q : Int) := by omega
      have d01 : ¬ i0 = i1 := by omega
      have d02 : ¬ i0 = i2 := by omega
      have d12 : ¬ i1 = i2 := by omega
      clear eq ei0 ei1 ei2
      cases mn
      · go_upto_region 50 with fail
        obtain ⟨w6, e6⟩ : ∃ w6, w6 = w4 := ⟨_, rfl⟩
        have HR6 : Hid (RowAt w6 T5 c7 (l0 ++ [(sz : TK)] ++ [⟨24, ss, sw⟩, ⟨lk, ls, lw⟩])) := by rw [e6]; exact HR5.out
        have HB6 : Hid (Below w0.heap.size w0 w6) := by rw [e6]; exact HB4.out
        rw [← e6]
        clear e6 g0 g1 g2 gf0 gf1 gf2 hmn
        obtain ⟨⟨s0, v0, f0, f1, f2⟩, _⟩ := HFA.out 0 hm
        rw [Nat.mul_zero, Nat.add_zero] at f0
        have F0 := Lib.hid (And.intro f0 (And.intro f1 f2))
        clear f0 f1 f2
        obtain ⟨l1, el1⟩ : ∃ l1, l1 = l0 ++ [(sz : TK)] ++ [⟨24, ss, sw⟩, ⟨lk, ls, lw⟩] := ⟨_, rfl⟩
        rw [← el1] at HR6
        have hl1 : l1.length = q := by
          rw [el1, List.length_append, List.length_append]
          have := HQI.out.1
          show l0.length + 1 + 2 = q
          omega
        have HEL1 := Lib.hid el1
        have HLL := Lib.hid hl1
        have HO6 : Hid (w6.ownsRow w0.heap.size 31 7 (.slice (some ⟨T5, 0, none⟩) q c7) l1.length (rowT l1)) := by
          have h := HR6.out.own (base := w0.heap.size) hT5 hc5
          rw [hl1] at h ⊢
          exact h
        have e23 : n - (pre.length + 3) = 2 * m - 1 := by have := HNL.out; omega
        have hz6 := HB6.out.size
        have hT6 := HR6.out.lt
        clear el1 hl1
        go_wp2_with fail
        refine (fams_any (.pointer (some ⟨p0, 0, none⟩)) T (pre.length + 3) m (cap - (pre.length + 3)) capT L w6 (HE.out.row.below HB6.out HE.out.row.lt) (HE.out.gf.below HB6.out) HFA.out hm hm2 (by have := HNL.out; omega) HLE.out).mono ?_
        rintro e w7 ⟨T3, c3, rfl, h3a, h3b, h3r, h3bel⟩
        have hfl : ((L.drop (pre.length + 3)).take (2 * m - 1)).length = 2 * m - 1 := by rw [List.length_take, List.length_drop, HLE.out]; omega
        obtain ⟨r, er⟩ : ∃ r, (L.drop (pre.length + 3)).take (2 * m - 1) = ⟨29, s0, v0⟩ :: r := by
          have h0 : ((L.drop (pre.length + 3)).take (2 * m - 1))[0]? = some ⟨29, s0, v0⟩ := by
            rw [List.getElem?_take, if_pos (by omega), List.getElem?_drop, Nat.add_zero]
            exact F0.out.1
          generalize (L.drop (pre.length + 3)).take (2 * m - 1) = fam at h0
          cases fam with
          | nil => cases h0
          | cons t r => cases h0; exact ⟨r, rfl⟩
        rw [er] at h3r hfl
        have h5 : Hid (MPost w0 (outP pre pre.length ++ lineOut false sz ⟨24, ss, sw⟩ ⟨lk, ls, lw⟩ ++ setFam ((L.drop (pre.length + 3)).take (2 * m - 1))) = MPost w0 (l1 ++ (⟨29, s0, bits .or .u8 v0 1⟩ :: r))) := by
          show _ = _
          rw [er, HEL1.out, HL0.out]
          congr 1
          rw [List.append_assoc (outP pre pre.length) [_] [_, _]]
          rfl
        have HFL := Lib.hid hfl
        obtain ⟨g5, g6, gf⟩ := h3r.first
        dsimp only at g5 g6
        have HR8 := Lib.hid (h3r.setFirst (bits .or .u8 v0 1))
        have HO8 : Hid ((w7.setCell ⟨T3, 6, none⟩ (.int .u8 (bits .or .u8 v0 1))).ownsRow w0.heap.size 31 7 (.slice (some ⟨T5, 0, none⟩) q c7) l1.length (rowT l1)) :=
          own_blk HO6.out (fun g hg1 hg2 => by rw [Below.heap_setCell _ _ _ _ (show g ≠ T3 by omega)]; exact h3bel.block g hg2)
        have HB8 : Hid (Below w0.heap.size w0 (w7.setCell ⟨T3, 6, none⟩ (.int .u8 (bits .or .u8 v0 1)))) := (HB6.out.trans (h3bel.mono hz6)).setCell (by show w0.heap.size ≤ T3; omega) _
        have hz3 := h3bel.size
        have hm1 : (0 : Int) < (2 * m - 1 : Nat) := by omega
        have hq0 : (0 : Int) < (q : Int) := by omega
        clear h3r h3bel er hfl
        go_wp2_with (first
          | (refine wpList_append_toks _ rfl _ _ rfl w0.heap.size (.slice (some ⟨T5, 0, none⟩) q c7) l1 (⟨29, s0, bits .or .u8 v0 1⟩ :: r) T3 c3 (2 * m - 1) HFL.out.symm rfl HO8.out rfl HR8.out h3b (by rw [HLL.out]; omega) (by omega) (by rw [World.size_setCell]; omega) ?_
             intro a9 c9 w9 hown9 hgr9
             have HO9 := Lib.hid hown9
             have HG9 := Lib.hid hgr9
             clear hown9 hgr9)
          | fail)
        rw [h5.out]
        refine bodyPost_ret (v := .slice a9 (l1.length + (2 * m - 1)) c9) (by simp [results, Tryz.results17, go_sem]) rfl ?_
        obtain ⟨T', c', ev2, hT', hc', hr'⟩ := RowAt.of_own (l := l1 ++ (⟨29, s0, bits .or .u8 v0 1⟩ :: r)) HO9.out (by rw [List.length_append, HLL.out]; omega)
        exact ⟨T', c', by rw [ev2], hT', hc', hr', HB8.out.trans (below_grown (w := w7.setCell ⟨T3, 6, none⟩ (.int .u8 (bits .or .u8 v0 1))) (Below.refl _ _) HG9.out HO8.out (by rw [World.size_setCell]; omega))⟩
      · go_upto_region 50 with fail
        obtain ⟨w6, e6⟩ : ∃ w6, w6 = ((w4.setCell ⟨T5, i0 * 7 + 6, none⟩ (.int .u8 (bits .and .u8 sz.ws 253))).setCell ⟨T5, i1 * 7 + 6, none⟩ (.int .u8 0)).setCell ⟨T5, i2 * 7 + 6, none⟩ (.int .u8 (bits .and .u8 lw 254)) := ⟨_, rfl⟩
        have HR6 : Hid (RowAt w6 T5 c7 (l0 ++ [(⟨sz.kd, sz.s, bits .and .u8 sz.ws 253⟩ : TK)] ++ [⟨24, ss, 0⟩, ⟨lk, ls, bits .and .u8 lw 254⟩])) := by
          have h := set3 HR5.out (bits .and .u8 sz.ws 253) 0 (bits .and .u8 lw 254)
          rw [← HQI.out.2.2.1, ← HQI.out.2.2.2, ← HQI.out.2.1, ← e6] at h
          exact h
        have HB6 : Hid (Below w0.heap.size w0 w6) := by rw [e6]; exact bset (bset (bset HB4.out _ _ _ hT5) _ _ _ hT5) _ _ _ hT5
        rw [← e6]
        clear e6 g0 g1 g2 gf0 gf1 gf2 hmn
        obtain ⟨⟨s0, v0, f0, f1, f2⟩, _⟩ := HFA.out 0 hm
        rw [Nat.mul_zero, Nat.add_zero] at f0
        have F0 := Lib.hid (And.intro f0 (And.intro f1 f2))
        clear f0 f1 f2
        obtain ⟨l1, el1⟩ : ∃ l1, l1 = l0 ++ [(⟨sz.kd, sz.s, bits .and .u8 sz.ws 253⟩ : TK)] ++ [⟨24, ss, 0⟩, ⟨lk, ls, bits .and .u8 lw 254⟩] := ⟨_, rfl⟩
        rw [← el1] at HR6
        have hl1 : l1.length = q := by
          rw [el1, List.length_append, List.length_append]
          have := HQI.out.1
          show l0.length + 1 + 2 = q
          omega
        have HEL1 := Lib.hid el1
        have HLL := Lib.hid hl1
        have HO6 : Hid (w6.ownsRow w0.heap.size 31 7 (.slice (some ⟨T5, 0, none⟩) q c7) l1.length (rowT l1)) := by
          have h := HR6.out.own (base := w0.heap.size) hT5 hc5
          rw [hl1] at h ⊢
          exact h
        have e23 : n - (pre.length + 3) = 2 * m - 1 := by have := HNL.out; omega
        have hz6 := HB6.out.size
        have hT6 := HR6.out.lt
        clear el1 hl1
        go_wp2_with fail
        refine (fams_any (.pointer (some ⟨p0, 0, none⟩)) T (pre.length + 3) m (cap - (pre.length + 3)) capT L w6 (HE.out.row.below HB6.out HE.out.row.lt) (HE.out.gf.below HB6.out) HFA.out hm hm2 (by have := HNL.out; omega) HLE.out).mono ?_
        rintro e w7 ⟨T3, c3, rfl, h3a, h3b, h3r, h3bel⟩
        have hfl : ((L.drop (pre.length + 3)).take (2 * m - 1)).length = 2 * m - 1 := by rw [List.length_take, List.length_drop, HLE.out]; omega
        obtain ⟨r, er⟩ : ∃ r, (L.drop (pre.length + 3)).take (2 * m - 1) = ⟨29, s0, v0⟩ :: r := by
          have h0 : ((L.drop (pre.length + 3)).take (2 * m - 1))[0]? = some ⟨29, s0, v0⟩ := by
            rw [List.getElem?_take, if_pos (by omega), List.getElem?_drop, Nat.add_zero]
            exact F0.out.1
          generalize (L.drop (pre.length + 3)).take (2 * m - 1) = fam at h0
          cases fam with
          | nil => cases h0
          | cons t r => cases h0; exact ⟨r, rfl⟩
        rw [er] at h3r hfl
        have h5 : Hid (MPost w0 (outP pre pre.length ++ lineOut true sz ⟨24, ss, sw⟩ ⟨lk, ls, lw⟩ ++ setFam ((L.drop (pre.length + 3)).take (2 * m - 1))) = MPost w0 (l1 ++ (⟨29, s0, bits .or .u8 v0 1⟩ :: r))) := by
          show _ = _
          rw [er, HEL1.out, HL0.out]
          congr 1
          rw [List.append_assoc (outP pre pre.length) [_] [_, _]]
          rfl
        have HFL := Lib.hid hfl
        obtain ⟨g5, g6, gf⟩ := h3r.first
        dsimp only at g5 g6
        have HR8 := Lib.hid (h3r.setFirst (bits .or .u8 v0 1))
        have HO8 : Hid ((w7.setCell ⟨T3, 6, none⟩ (.int .u8 (bits .or .u8 v0 1))).ownsRow w0.heap.size 31 7 (.slice (some ⟨T5, 0, none⟩) q c7) l1.length (rowT l1)) :=
          own_blk HO6.out (fun g hg1 hg2 => by rw [Below.heap_setCell _ _ _ _ (show g ≠ T3 by omega)]; exact h3bel.block g hg2)
        have HB8 : Hid (Below w0.heap.size w0 (w7.setCell ⟨T3, 6, none⟩ (.int .u8 (bits .or .u8 v0 1)))) := (HB6.out.trans (h3bel.mono hz6)).setCell (by show w0.heap.size ≤ T3; omega) _
        have hz3 := h3bel.size
        have hm1 : (0 : Int) < (2 * m - 1 : Nat) := by omega
        have hq0 : (0 : Int) < (q : Int) := by omega
        clear h3r h3bel er hfl
        go_wp2_with (first
          | (refine wpList_append_toks _ rfl _ _ rfl w0.heap.size (.slice (some ⟨T5, 0, none⟩) q c7) l1 (⟨29, s0, bits .or .u8 v0 1⟩ :: r) T3 c3 (2 * m - 1) HFL.out.symm rfl HO8.out rfl HR8.out h3b (by rw [HLL.out]; omega) (by omega) (by rw [World.size_setCell]; omega) ?_
             intro a9 c9 w9 hown9 hgr9
             have HO9 := Lib.hid hown9
             have HG9 := Lib.hid hgr9
             clear hown9 hgr9)
          | fail)
        rw [h5.out]
        refine bodyPost_ret (v := .slice a9 (l1.length + (2 * m - 1)) c9) (by simp [results, Tryz.results17, go_sem]) rfl ?_
        obtain ⟨T', c', ev2, hT', hc', hr'⟩ := RowAt.of_own (l := l1 ++ (⟨29, s0, bits .or .u8 v0 1⟩ :: r)) HO9.out (by rw [List.length_append, HLL.out]; omega)
        exact ⟨T', c', by rw [ev2], hT', hc', hr', HB8.out.trans (below_grown (w := w7.setCell ⟨T3, 6, none⟩ (.int .u8 (bits .or .u8 v0 1))) (Below.refl _ _) HG9.out HO8.out (by rw [World.size_setCell]; omega))⟩
end Go.Proofs.YtoeahdefgblmoaaGreatDoor
