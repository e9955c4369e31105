/-
  mangleFont on a size and serif.
-/
import Derived.Test.YtoeahdefgblmoaaGreatDoorK
import Derived.Test.YtoeahdefgblmoaaGreatDoorL2
import Derived.Test.YtoeahdefgblmoaaGreatDoorL3
namespace Go.Proofs.YtoeahdefgblmoaaGreatDoor
open Go.RowKit Go.Deep Go.PlainAid Go.Maps Go.Sort

def sfS : ByteArray := ⟨#[115, 101, 114, 105, 102]⟩
def sf (ws : Int) : TK := ⟨29, sfS, ws⟩
theorem sf_fam : GF.atKey (.string sfS.data.toList) (.lit (.bool false)) = .lit (.bool true) := by rfl

set_option maxHeartbeats 8000000 in
set_option maxRecDepth 100000 in
theorem mangle_size (p0 T capT : Nat) (t : TK) (w0 : World) (hrow : RowAt w0 T capT [t, sf 0]) (hkw : MapAt w0 0 KW) (hgf : MapAt w0 1 GF) (hU : Uni w0) (hs : t.s.size ≤ 1048576) (hz : isSz t.kd (lowT t.s) = true) :
    Calls Tryz.prog 17 #[.pointer (some ⟨p0, 0, none⟩), .slice (some ⟨T, 0, none⟩) 2 2] w0 (MPost w0 [t, sf 1]) := by
  have HR := Lib.hid hrow
  have HK := Lib.hid (And.intro hkw (And.intro hgf (And.intro hU (And.intro hs hz))))
  obtain ⟨q0, q1, q2, q3, q4, q5, q6⟩ := hrow.cells 0 (by show 0 < 2; omega)
  simp only [List.getElem_cons_zero, Nat.zero_mul, Nat.zero_add] at q0 q1 q2 q3 q4 q5 q6
  clear hrow hkw hgf hU hs hz
  go_enter Tryz.func17, Tryz.ntmps17
  go_wp2_with fail
  refine wp_loop_rounds 1 ?_
  rw [rounds_succ]
  go_upto_region 6 with fail
  obtain ⟨W2, eW⟩ : ∃ W2, W2 = w0.alloc (.cells #[.pointer none, .string t.s, .int .i32 0, .int .u32 0, .int .u16 0, .int .u8 t.kd, .int .u8 t.ws] 31) := ⟨_, rfl⟩
  have hA : Box W2 w0.heap.size t := by rw [eW]; exact Box.made w0 t
  have hB2 : Below w0.heap.size w0 W2 := by rw [eW]; exact (Below.refl _ _).alloc (Nat.le_refl _) _
  rw [← eW]
  clear eW q0 q1 q2 q3 q4 q5 q6
  have HA := Lib.hid hA
  have HB2 := Lib.hid hB2
  obtain ⟨t0, t1, t2, t3, t4, t5, t6, tf⟩ := hA
  clear hB2
  go_wp2_with fail
  refine (fontsize_uni t W2 HK.out.2.2.2.1 (HK.out.2.2.1.below HB2.out) (HK.out.1.below HB2.out)).mono ?_
  rintro e w1 ⟨rfl, hb1⟩
  rw [HK.out.2.2.2.2]
  have HBB := Lib.hid (HB2.out.trans (hb1.mono HB2.out.size))
  have HO1 : Hid (w1.ownsRow w0.heap.size 31 7 (.slice none 0 0) ([] : List TK).length (rowT [])) := Lib.hid (World.ownsRow_nil _ _ _ _)
  clear hb1 t0 t1 t2 t3 t4 t5 t6 tf HA HB2
  obtain ⟨q0, q1, q2, q3, q4, q5, q6⟩ := (HR.out.below HBB.out HR.out.lt).cells 0 (by show 0 < 2; omega)
  simp only [List.getElem_cons_zero, Nat.zero_mul, Nat.zero_add] at q0 q1 q2 q3 q4 q5 q6
  have hs1 := HBB.out.size
  go_upto_region 41 with (first
    | (refine wpList_append_tok w1 rfl (.tmp 116) (.tmp 121) rfl w0.heap.size (.slice none 0 0) [] t rfl HO1.out rfl (by simp) (by omega) ?_
       intro a6 c6 w2 hown2 hgr2
       have HO2 := Lib.hid hown2
       have HG2 := Lib.hid hgr2
       clear hown2 hgr2)
    | fail)
  have HB2 : Hid (Below w0.heap.size w0 w2) := Lib.hid (HBB.out.trans (below_grown (w := w1) ((Below.refl _ _).alloc (by omega) _) HG2.out HO1.out (by omega)))
  clear q0 q1 q2 q3 q4 q5 q6
  obtain ⟨q0, q1, q2, q3, q4, q5, q6⟩ := (HR.out.below HB2.out HR.out.lt).cells 1 (by show 1 < 2; omega)
  simp only [List.getElem_cons_succ, List.getElem_cons_zero, Nat.one_mul, sf] at q0 q1 q2 q3 q4 q5 q6
  go_wp2_with fail
  have hz2 := HB2.out.size
  refine (fam_one (.pointer (some ⟨p0, 0, none⟩)) T 1 capT [t, sf 0] sfS 0 w2 (HR.out.below HB2.out HR.out.lt) (HK.out.2.1.below HB2.out) rfl (by decide) sf_fam).mono ?_
  rintro e w3 ⟨T3, c3, rfl, h3a, h3b, h3r, h3bel⟩
  obtain ⟨g5, g6, gf⟩ := h3r.first
  dsimp only at g5 g6
  have HR4 := Lib.hid (h3r.setFirst 1)
  have HO4 : Hid ((w3.setCell ⟨T3, 6, none⟩ (.int .u8 1)).ownsRow w0.heap.size 31 7 (.slice a6 1 c6) ([t] : List TK).length (rowT [t])) :=
    Lib.hid (own_blk HO2.out (fun g hg1 hg2 => by rw [Below.heap_setCell _ _ _ _ (show g ≠ T3 by omega)]; exact h3bel.block g hg2))
  have HB4 : Hid (Below w0.heap.size w0 (w3.setCell ⟨T3, 6, none⟩ (.int .u8 1))) := Lib.hid ((HB2.out.trans (h3bel.mono hz2)).setCell (by show w0.heap.size ≤ T3; omega) _)
  have hz3 := h3bel.size
  have hor : bits .or .u8 0 1 = 1 := by decide
  clear h3r h3bel q0 q1 q2 q3 q4 q5 q6
  go_wp2_with (first
    | (refine wpList_append_toks _ rfl _ _ rfl w0.heap.size (.slice a6 1 c6) [t] [⟨29, sfS, 1⟩] T3 c3 1 rfl rfl HO4.out rfl HR4.out h3b (by simp) (by omega) (by rw [World.size_setCell]; omega) ?_
       intro a7 c7 w7 hown7 hgr7
       have HO7 := Lib.hid hown7
       have HG7 := Lib.hid hgr7
       clear hown7 hgr7)
    | fail)
  refine bodyPost_ret (v := .slice a7 2 c7) (by simp [results, Tryz.results17, go_sem]) rfl ?_
  obtain ⟨T', c', ev, hT', hc', hr'⟩ := RowAt.of_own (l := [t] ++ [⟨29, sfS, 1⟩]) HO7.out (by simp)
  refine ⟨T', c', congrArg Ending.returned ev, hT', hc', hr', HB4.out.trans (below_grown (w := w3.setCell ⟨T3, 6, none⟩ (.int .u8 1)) (Below.refl _ _) HG7.out HO4.out (by rw [World.size_setCell]; omega))⟩
end Go.Proofs.YtoeahdefgblmoaaGreatDoor
