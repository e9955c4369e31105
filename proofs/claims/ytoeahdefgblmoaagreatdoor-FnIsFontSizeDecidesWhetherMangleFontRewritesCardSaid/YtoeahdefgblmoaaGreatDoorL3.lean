/-
  mangleFontFamily on one generic name at the row's end.
-/
import Derived.Test.YtoeahdefgblmoaaGreatDoorG
namespace Go.Proofs.YtoeahdefgblmoaaGreatDoor
open Go.RowKit Go.Deep Go.PlainAid Go.Maps Go.Sort

def FamLast (B T j : Nat) (l : List TK) (t : TK) (w : World) (e : Ending) (w' : World) : Prop := ∃ a' c', e = .returned (.tuple #[.slice a' (l.length + 1) c', .slice (some ⟨T, j * 7, none⟩) 0 0, .bool true]) ∧
  w'.ownsRow B 31 7 (.slice a' (l.length + 1) c') (l ++ [t]).length (rowT (l ++ [t])) ∧ Below B w w'

set_option maxHeartbeats 2000000 in
set_option maxRecDepth 100000 in
theorem famname_last (p : Value) (B T j capT : Nat) (l inp : List TK) (a0 : Option Addr) (n0 c0 : Nat) (s : ByteArray) (ws : Int) (w : World) (hrow : RowAt w T capT inp) (hj : inp[j]? = some ⟨29, s, ws⟩)
    (hg : GF.atKey (.string s.data.toList) (.lit (.bool false)) = .lit (.bool true)) (hM : MapAt w 1 GF) (hs : s.size ≤ maxLen) (hown : w.ownsRow B 31 7 (.slice a0 n0 c0) l.length (rowT l)) (hB : B ≤ w.heap.size) (hl : l.length ≤ 900000) :
    Calls Tryz.prog 33 #[p, .slice a0 n0 c0, .slice (some ⟨T, j * 7, none⟩) 1 1] w (FamLast B T j l ⟨29, s, ws⟩ w) := by
  obtain ⟨hjl, hje⟩ := List.getElem?_eq_some_iff.1 hj
  obtain ⟨p0, p1, p2, p3, p4, p5, p6⟩ := hrow.cells j hjl
  rw [hje] at p1 p5 p6
  dsimp only at p1 p5 p6
  obtain ⟨b, x, g0, _, g1, hx⟩ := hM.look s hs
  rw [hg] at hx
  cases hx
  have HG := Lib.hid g1
  have HO := Lib.hid hown
  have hT := hrow.lt
  have hgb : b < w.heap.size ∨ True := .inr trivial
  clear hrow hj hM hje hg hown g1 hgb
  go_enter Tryz.func33, Tryz.ntmps33
  go_upto_region 3 with fail
  obtain ⟨W2, eW⟩ : ∃ W2, W2 = w.alloc (.cells #[.pointer none, .string s, .int .i32 0, .int .u32 0, .int .u16 0, .int .u8 29, .int .u8 ws] 31) := ⟨_, rfl⟩
  have hA : Box W2 w.heap.size ⟨29, s, ws⟩ := by rw [eW]; exact Box.made w ⟨29, s, ws⟩
  have hBB : Below w.heap.size w W2 := by rw [eW]; exact (Below.refl _ _).alloc (Nat.le_refl _) _
  have hz : W2.heap.size = w.heap.size + 1 := by rw [eW, World.size_alloc]
  rw [← eW]
  clear eW
  obtain ⟨t0, t1, t2, t3, t4, t5, t6, tf⟩ := hA
  have g2 := cell_later hBB g0
  have HO2 := Lib.hid (own_later HO.out hBB)
  have hlk := HG.out W2 hBB
  have HLK := Lib.hid hlk
  have HBB := Lib.hid hBB
  have HZ := Lib.hid hz
  dsimp only at t1 t5 t6
  clear hlk hBB HG HO hz g0 p0 p1 p2 p3 p4 p5 p6
  go_upto_region 4 with (first | (at_lookup; refine wpList_lookup_wanted _ _ _ _ false rfl rfl rfl HLK.out rfl ?_) | fail)
  have HOd : Hid (W2.drew.ownsRow B 31 7 (.slice a0 n0 c0) l.length (rowT l)) := HO2.out
  go_region_law (first
    | (refine step_append_tok W2.drew rfl (.tmp 31) (.tmp 33) rfl B (.slice a0 n0 c0) l ⟨29, s, ws⟩ rfl HOd.out rfl (by omega) (by have hz := HZ.out; show B ≤ W2.heap.size; omega) ?_
       intro a' c' w3 hown3 hgr3
       have HF := Lib.hid (And.intro hown3 hgr3)
       clear hown3 hgr3))
  go_wp2_with fail
  refine bodyPost_ret (v := .tuple #[.slice a' (l.length + 1) c', .slice (some ⟨T, j * 7, none⟩) 0 0, .bool true]) (by simp [results, Tryz.results33, go_sem]) rfl ?_
  have hz := HZ.out
  refine ⟨a', c', rfl, HF.out.1, (HBB.out.mono hB).trans ?_⟩
  exact below_grown (w := W2) ((show Below B W2 W2.drew from (Below.refl B W2).drew).alloc (by show B ≤ W2.heap.size; omega) _) HF.out.2 HO2.out (by omega)


/-- What mangleFontFamily leaves. -/
def FamOne (B : Nat) (t : TK) (w : World) (e : Ending) (w' : World) : Prop := ∃ T' c', e = .returned (.tuple #[.slice (some ⟨T', 0, none⟩) 1 c', .bool true]) ∧ B ≤ T' ∧ c' ≤ maxLen ∧ RowAt w' T' c' [t] ∧ Below B w w'

set_option maxHeartbeats 4000000 in
set_option maxRecDepth 100000 in
theorem fam_one (p : Value) (T j capT : Nat) (L : List TK) (s : ByteArray) (ws : Int) (w : World) (hrow : RowAt w T capT L) (hM : MapAt w 1 GF) (hj : L[j]? = some ⟨29, s, ws⟩) (hs : s.size ≤ 1000)
    (hg : GF.atKey (.string s.data.toList) (.lit (.bool false)) = .lit (.bool true)) :
    Calls Tryz.prog 23 #[p, .slice (some ⟨T, j * 7, none⟩) 1 1] w (FamOne w.heap.size ⟨29, s, ws⟩ w) := by
  have q0 := famname_last p w.heap.size T j capT [] L none 0 0 s ws w hrow hj hg hM (by unfold maxLen; omega) (World.ownsRow_nil _ _ _ _) (Nat.le_refl _) (by simp)
  have Q0 := Lib.hid q0
  clear q0 hrow hM hj hs hg
  go_enter Tryz.func23, Tryz.ntmps23
  go_wp2_with fail
  refine Q0.out.mono ?_
  rintro e w1 ⟨a1, c1, rfl, o1, b1⟩
  have HO := Lib.hid (And.intro o1 b1)
  clear o1 b1
  go_wp2_with fail
  refine wp_loop_rounds 1 ?_
  rw [rounds_succ]
  go_wp2_with fail
  obtain ⟨T', c', ev, hT', hc', hr'⟩ := RowAt.of_own (l := [⟨29, s, ws⟩]) HO.out.1 (by simp)
  injection ev with ea _ ec
  subst ea ec
  exact bodyPost_ret (v := .tuple #[.slice (some ⟨T', 0, none⟩) 1 c1, .bool true]) (by simp [results, Tryz.results23, go_sem]) rfl ⟨T', c1, rfl, hT', hc', hr', HO.out.2⟩
end Go.Proofs.YtoeahdefgblmoaaGreatDoor
