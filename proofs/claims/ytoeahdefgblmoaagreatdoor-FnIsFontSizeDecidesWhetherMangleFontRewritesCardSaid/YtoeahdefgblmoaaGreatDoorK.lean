/-
  mangleFont on a well-formed shorthand.
-/
import Derived.Test.YtoeahdefgblmoaaGreatDoorJ
namespace Go.Proofs.YtoeahdefgblmoaaGreatDoor
open Go.RowKit Go.Deep Go.PlainAid Go.Maps Go.Sort

/-- The words, then a size. -/
structure Form (L : List TK) (pre : List (Nat × Int)) (sz : TK) (sl : ByteArray) : Prop where
  words : ∀ i (hi : i < pre.length), L[i]? = some (inW (pre[i]'hi))
  num : ∀ x ∈ pre, x.1 < 15
  len : pre.length ≤ 4096
  size : L[pre.length]? = some sz
  low : sz.kd = 29 → Low sz.s sl
  isz : isSz sz.kd sl = true
  ang : sz.kd = 26 → Low sz.s sl ∧ noAngle sl

def outP (pre : List (Nat × Int)) (k : Nat) : List TK := (pre.take k).flatMap outW
theorem outP_succ (pre : List (Nat × Int)) (k : Nat) (hk : k < pre.length) : outP pre (k + 1) = outP pre k ++ outW (pre[k]'hk) := by
  unfold outP
  rw [List.take_succ_eq_append_getElem hk, List.flatMap_append]
  simp
theorem outP_len (pre : List (Nat × Int)) (k : Nat) : (outP pre k).length ≤ k := by
  unfold outP
  rw [List.length_flatMap]
  have h : ∀ l : List (Nat × Int), (l.map fun x => (outW x).length).sum ≤ l.length := fun l => by
    induction l with
    | nil => simp
    | cons x l ih =>
      rw [List.map_cons, List.sum_cons, List.length_cons]
      have : (outW x).length ≤ 1 := by unfold outW; split <;> simp
      omega
  exact Nat.le_trans (h _) (by rw [List.length_take]; omega)

theorem pw_kd (c : Nat) (h : c < 15) : (pwT c).1 ≠ 26 := (by decide : ∀ c : Fin 15, (pwT c.val).1 ≠ 26) ⟨c, h⟩

def intAt (a : Act) (i : Nat) : Nat := (intOf (a.tmps.getD i undef)).toNat

def Inv (pre : List (Nat × Int)) (w0 : World) (p : Value) (T n cap : Nat) (a : Act) (w : World) : Prop := ∃ (k : Nat) (a5 : Option Addr) (c5 : Nat), k ≤ pre.length ∧ Ent a w w0 p T n cap k (outP pre k) a5 c5

/-- The first of the families wants a blank ahead. -/
def setFam : List TK → List TK
  | [] => []
  | t :: r => ⟨t.kd, t.s, bits .or .u8 t.ws 1⟩ :: r

/-- What mangleFont answers. -/
def MPost (w0 : World) (out : List TK) (e : Ending) (w' : World) : Prop := ∃ T' c', e = .returned (.slice (some ⟨T', 0, none⟩) out.length c') ∧ w0.heap.size ≤ T' ∧ c' ≤ maxLen ∧ RowAt w' T' c' out ∧ Below w0.heap.size w0 w'

theorem RowAt.first {w : World} {T cap : Nat} {t : TK} {r : List TK} (h : RowAt w T cap (t :: r)) : w.cell? ⟨T, 5, none⟩ = some (.int .u8 t.kd) ∧ w.cell? ⟨T, 6, none⟩ = some (.int .u8 t.ws) ∧ w.frozen? ⟨T, 6, none⟩ = false := by
  obtain ⟨_, _, _, _, _, h5, h6⟩ := h.cells 0 (Nat.succ_pos _)
  exact ⟨h5, h6, h.fz 6⟩
theorem RowAt.setFirst {w : World} {T cap : Nat} {t : TK} {r : List TK} (h : RowAt w T cap (t :: r)) (x : Int) : RowAt (w.setCell ⟨T, 6, none⟩ (.int .u8 x)) T cap (⟨t.kd, t.s, x⟩ :: r) := h.setWs 0 (Nat.succ_pos _) x

set_option maxHeartbeats 8000000 in
set_option maxRecDepth 100000 in
theorem mangle_plain (p0 T capT n cap m : Nat) (L : List TK) (pre : List (Nat × Int)) (sz : TK) (sl : ByteArray) (w0 : World) (hE : Env w0 T capT L) (hF : Form L pre sz sl) (hn : n = L.length) (hc : n < cap) (hcap : cap ≤ 100000)
    (hf : Fams L (pre.length + 1) m) (hm : 1 ≤ m) (hm2 : m ≤ 4096) (hlen : L.length = pre.length + 1 + (2 * m - 1)) :
    Calls Tryz.prog 17 #[.pointer (some ⟨p0, 0, none⟩), .slice (some ⟨T, 0, none⟩) n cap] w0 (MPost w0 (outP pre pre.length ++ [sz] ++ setFam ((L.drop (pre.length + 1)).take (2 * m - 1)))) := by
  have HFA := Lib.hid hf
  have HLE := Lib.hid hlen
  have hnl : n = pre.length + 1 + (2 * m - 1) := hn.trans hlen
  clear hf hlen
  have HE := Lib.hid hE
  have HF := Lib.hid hF
  have HN := Lib.hid hn
  have hnp : pre.length < n := by rw [hn]; exact (List.getElem?_eq_some_iff.1 hF.size).1
  have hn4 := hF.len
  clear hE hF hn
  go_enter Tryz.func17, Tryz.ntmps17
  go_upto_block 0 with fail
  refine wp_block ?_
  refine wp_loop (Inv pre w0 (.pointer (some ⟨p0, 0, none⟩)) T n cap) (fun a _ => pre.length + 1 - intAt a 6)
    ⟨0, none, 0, Nat.zero_le _, ⟨rfl, rfl⟩, rfl, rfl, rfl, rfl, World.ownsRow_nil _ _ _ _, Below.refl _ _⟩ ?_
  rintro a w ⟨k, a5, c5, hk, hent⟩
  obtain ⟨xs, rfl, hxs⟩ := hent.fr.lit
  have x0 := hxs 0 _ (by omega) hent.e0
  have x1 := hxs 1 _ (by omega) hent.e1
  have x5 := hxs 5 _ (by omega) hent.e5
  have x6 := hxs 6 _ (by omega) hent.e6
  have HO := Lib.hid hent.own
  have HB := Lib.hid hent.bel
  clear hxs hent
  simp only [fr, x0, x1, x5, x6]
  clear x0 x1 x5 x6
  have hkn : (k : Int) < (n : Int) := by omega
  by_cases hlt : k < pre.length
  · obtain ⟨nt, hnt, hal⟩ : ∃ nt, L[k + 1]? = some nt ∧ (nt.kd = 26 → Low nt.s sl ∧ noAngle sl) := by
      by_cases h1 : k + 1 < pre.length
      · exact ⟨_, HF.out.words (k + 1) h1, fun h => absurd h (pw_kd _ (HF.out.num _ (List.getElem_mem h1)))⟩
      · refine ⟨sz, ?_, HF.out.ang⟩
        have h2 : k + 1 = pre.length := by omega
        rw [h2]
        exact HF.out.size
    have hkt := HF.out.words k hlt
    have hc15 := HF.out.num _ (List.getElem_mem hlt)
    have hsucc := outP_succ pre k hlt
    obtain ⟨x, ex⟩ : ∃ x, x = pre[k] := ⟨_, rfl⟩
    rw [← ex] at hkt hc15 hsucc
    obtain ⟨c, ws⟩ := x
    have HS := Lib.hid hsucc
    have HT := Lib.hid (And.intro hnt (And.intro hal hkt))
    have hol := outP_len pre k
    have HOL := Lib.hid hol
    clear ex hsucc hnt hal hkt hol
    go_upto_block 1 with fail
    refine word_wp rfl _ _ w w0 (.pointer (some ⟨p0, 0, none⟩)) T capT n cap k L (outP pre k) a5 c5 c ws HE.out ⟨⟨rfl, rfl⟩, rfl, rfl, rfl, rfl, HO.out, HB.out⟩ HN.out (by omega) (by omega) hc15 HT.out.2.2 (by have := HOL.out; omega) nt sl HT.out.1 HT.out.2.1 ?_
    intro a' W' a5' c5' hent
    obtain ⟨xs, rfl, hxs⟩ := hent.fr.lit
    have x0 := hxs 0 _ (by omega) hent.e0
    have x1 := hxs 1 _ (by omega) hent.e1
    have x5 := hxs 5 _ (by omega) hent.e5
    have x6 := hxs 6 _ (by omega) hent.e6
    have HO' := Lib.hid hent.own
    have HB' := Lib.hid hent.bel
    clear hxs hent
    simp only [fr, x0, x1, x5, x6]
    clear x0 x1 x5 x6
    have hkb : (k : Int) ≤ 100000 := by omega
    go_wp2_with fail
    refine ⟨⟨k + 1, a5', c5', hlt, ⟨rfl, rfl⟩, rfl, rfl, ?_, ?_, ?_, HB'.out⟩, ?_⟩
    · rw [HS.out, List.length_append]; rfl
    · rfl
    · rw [HS.out]; exact HO'.out
    · show pre.length + 1 - ((k : Int) + 1).toNat < pre.length + 1 - (k : Int).toNat
      omega
  · obtain rfl : k = pre.length := by omega
    obtain ⟨hkl, hke⟩ := List.getElem?_eq_some_iff.1 HF.out.size
    obtain ⟨q0, q1, q2, q3, q4, q5, q6⟩ := (HE.out.row.below HB.out HE.out.row.lt).cells pre.length hkl
    rw [hke] at q1 q5 q6
    clear hke hkl
    go_upto_region 6 with fail
    obtain ⟨W2, eW⟩ : ∃ W2, W2 = w.alloc (.cells #[.pointer none, .string sz.s, .int .i32 0, .int .u32 0, .int .u16 0, .int .u8 sz.kd, .int .u8 sz.ws] 31) := ⟨_, rfl⟩
    have hA : Box W2 w.heap.size sz := by rw [eW]; exact Box.made w sz
    have hB2 : Below w.heap.size w W2 := by rw [eW]; exact (Below.refl _ _).alloc (Nat.le_refl _) _
    rw [← eW]
    clear eW q0 q1 q2 q3 q4 q5 q6
    have hbs := HB.out.size
    have HA := Lib.hid hA
    have HB2 := Lib.hid hB2
    obtain ⟨t0, t1, t2, t3, t4, t5, t6, tf⟩ := hA
    clear hB2
    go_wp2_with fail
    refine (fontsize_any sz sl HF.out.low W2 (HE.out.kw.below (HB.out.trans (HB2.out.mono hbs)))).mono ?_
    rintro e w1 ⟨rfl, hb1⟩
    rw [HF.out.isz]
    have HB1 := Lib.hid (HB2.out.trans (hb1.mono HB2.out.size))
    have HO1 := Lib.hid (own_later HO.out HB1.out)
    have HBB := Lib.hid (HB.out.trans (HB1.out.mono hbs))
    clear hb1 t0 t1 t2 t3 t4 t5 t6 tf HA HB2 HO HB HB1
    obtain ⟨hkl, hke⟩ := List.getElem?_eq_some_iff.1 HF.out.size
    obtain ⟨q0, q1, q2, q3, q4, q5, q6⟩ := (HE.out.row.below HBB.out HE.out.row.lt).cells pre.length hkl
    rw [hke] at q1 q5 q6
    have hne : ((pre.length : Int) == (n : Int)) = false := beq_eq_false_iff_ne.2 (by omega)
    have hs1 := HBB.out.size
    have hol := outP_len pre pre.length
    clear hke hkl
    obtain ⟨l0, el0⟩ : ∃ l0, l0 = outP pre pre.length := ⟨_, rfl⟩
    rw [← el0] at HO1 hol ⊢
    have HL0 := Lib.hid el0
    clear el0
    go_upto_region 41 with (first
      | (refine wpList_append_tok w1 rfl (.tmp 116) (.tmp 121) rfl w0.heap.size (.slice a5 l0.length c5) l0 sz rfl HO1.out rfl (by omega) (by omega) ?_
         intro a6 c6 w2 hown2 hgr2
         have HO2 := Lib.hid hown2
         have HG2 := Lib.hid hgr2
         clear hown2 hgr2)
      | fail)
    have HB2 := Lib.hid (HBB.out.trans (below_grown (w := w1) ((Below.refl _ _).alloc (by omega) _) HG2.out HO1.out (by omega)))
    obtain ⟨⟨s0, v0, f0, f1, f2⟩, _⟩ := HFA.out 0 hm
    rw [Nat.mul_zero, Nat.add_zero] at f0
    obtain ⟨hgl, hge⟩ := List.getElem?_eq_some_iff.1 f0
    clear q0 q1 q2 q3 q4 q5 q6
    obtain ⟨q0, q1, q2, q3, q4, q5, q6⟩ := (HE.out.row.below HB2.out HE.out.row.lt).cells (pre.length + 1) hgl
    rw [hge] at q1 q5 q6
    dsimp only at q1 q5 q6
    have hnp1 : (pre.length : Int) ≤ 4096 := by omega
    have hnp2 : (pre.length : Int) + 1 < (n : Int) := by omega
    have hnp3 : (n : Int) ≤ (cap : Int) := by omega
    have hnp4 : ¬ cap = pre.length + 1 := by omega
    have F0 := Lib.hid (And.intro f0 (And.intro f1 f2))
    clear hge hgl f0 f1 f2
    go_wp2_with fail
    have hz2 := HB2.out.size
    refine (fams_any (.pointer (some ⟨p0, 0, none⟩)) T (pre.length + 1) m (cap - (pre.length + 1)) capT L w2 (HE.out.row.below HB2.out HE.out.row.lt) (HE.out.gf.below HB2.out) HFA.out hm hm2 (by omega) HLE.out).mono ?_
    rintro e w3 ⟨T3, c3, rfl, h3a, h3b, h3r, h3bel⟩
    have hfl : ((L.drop (pre.length + 1)).take (2 * m - 1)).length = 2 * m - 1 := by rw [List.length_take, List.length_drop, HLE.out]; omega
    obtain ⟨r, er⟩ : ∃ r, (L.drop (pre.length + 1)).take (2 * m - 1) = ⟨29, s0, v0⟩ :: r := by
      have h0 : ((L.drop (pre.length + 1)).take (2 * m - 1))[0]? = some ⟨29, s0, v0⟩ := by
        rw [List.getElem?_take, if_pos (by omega), List.getElem?_drop, Nat.add_zero]
        exact F0.out.1
      generalize (L.drop (pre.length + 1)).take (2 * m - 1) = fam at h0
      cases fam with
      | nil => cases h0
      | cons t r => cases h0; exact ⟨r, rfl⟩
    rw [er] at h3r hfl
    have h5 : Hid (MPost w0 (outP pre pre.length ++ [sz] ++ setFam ((L.drop (pre.length + 1)).take (2 * m - 1))) = MPost w0 (l0 ++ [sz] ++ (⟨29, s0, bits .or .u8 v0 1⟩ :: r))) := by
      show _ = _
      rw [er, HL0.out]; rfl
    have HFL := Lib.hid hfl
    obtain ⟨g5, g6, gf⟩ := h3r.first
    dsimp only at g5 g6
    have HR4 := Lib.hid (h3r.setFirst (bits .or .u8 v0 1))
    have HO4 : Hid ((w3.setCell ⟨T3, 6, none⟩ (.int .u8 (bits .or .u8 v0 1))).ownsRow w0.heap.size 31 7 (.slice a6 (l0.length + 1) c6) (l0 ++ [sz]).length (rowT (l0 ++ [sz]))) :=
      own_blk HO2.out (fun g hg1 hg2 => by rw [Below.heap_setCell _ _ _ _ (show g ≠ T3 by omega)]; exact h3bel.block g hg2)
    have HB4 : Hid (Below w0.heap.size w0 (w3.setCell ⟨T3, 6, none⟩ (.int .u8 (bits .or .u8 v0 1)))) := (HB2.out.trans (h3bel.mono hz2)).setCell (by show w0.heap.size ≤ T3; omega) _
    have hz3 := h3bel.size
    have el : (l0 ++ [sz]).length = l0.length + 1 := by rw [List.length_append]; rfl
    have HEL := Lib.hid el
    have hm1 : (0 : Int) < (2 * m - 1 : Nat) := by omega
    clear h3r h3bel er hfl el q0 q1 q2 q3 q4 q5 q6
    go_wp2_with (first
      | (refine wpList_append_toks _ rfl _ _ rfl w0.heap.size (.slice a6 (l0.length + 1) c6) (l0 ++ [sz]) (⟨29, s0, bits .or .u8 v0 1⟩ :: r) T3 c3 (2 * m - 1) HFL.out.symm rfl HO4.out rfl HR4.out h3b (by rw [HEL.out]; omega) (by omega) (by rw [World.size_setCell]; omega) ?_
         intro a7 c7 w7 hown7 hgr7
         have HO7 := Lib.hid hown7
         have HG7 := Lib.hid hgr7
         clear hown7 hgr7)
      | fail)
    rw [h5.out]
    refine bodyPost_ret (v := .slice a7 (l0.length + 1 + (2 * m - 1)) c7) (by simp [results, Tryz.results17, go_sem]) rfl ?_
    obtain ⟨T', c', ev, hT', hc', hr'⟩ := RowAt.of_own (l := l0 ++ [sz] ++ (⟨29, s0, bits .or .u8 v0 1⟩ :: r)) HO7.out (by rw [List.length_append, HEL.out]; omega)
    rw [HEL.out] at ev
    refine ⟨T', c', by rw [ev], hT', hc', hr', HB4.out.trans (below_grown (w := w3.setCell ⟨T3, 6, none⟩ (.int .u8 (bits .or .u8 v0 1))) (Below.refl _ _) HG7.out HO4.out (by rw [World.size_setCell]; omega))⟩
end Go.Proofs.YtoeahdefgblmoaaGreatDoor
