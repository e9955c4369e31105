/-
  One word of mangleFont's first loop, walked: oblique.
  Then: One word of mangleFont's first loop, whichever it is.
-/
import Derived.Test.YtoeahdefgblmoaaGreatDoorI
namespace Go.Proofs.YtoeahdefgblmoaaGreatDoor
open Go.RowKit Go.Deep Go.PlainAid Go.Maps Go.Sort

set_option maxHeartbeats 4000000 in
set_option maxRecDepth 100000 in
theorem oblique_wp {d : Code} (hcode : Tryz.f17.body.bind (fb 1) = some (.block 1 d)) (Q : Exit → Act → World → Prop) (a : Act) (W w0 : World) (p : Value) (T capT n cap k : Nat) (L l : List TK) (a5 : Option Addr) (c5 : Nat) (s lw : ByteArray) (ws : Int)
    (hE : Env w0 T capT L) (ha : Ent a W w0 p T n cap k l a5 c5) (hn : n = L.length) (hk : k < n) (hkt : L[k]? = some ⟨29, s, ws⟩) (hL : Low s lw) (hz : isSz 29 lw = false) (hl : l.length ≤ 10000) (hx : lw.toList = [111, 98, 108, 105, 113, 117, 101]) (hkb : k ≤ 100000) (nt : TK) (ln : ByteArray) (hnt : L[k + 1]? = some nt) (hal : nt.kd = 26 → Low nt.s ln ∧ noAngle ln)
    (hQ : ∀ a' W' a5' c5', Ent a' W' w0 p T n cap k (l ++ [⟨29, s, ws⟩]) a5' c5' → Q .normal a' W') : Code.wp Tryz.prog (.block 1 d) Q a W := by
  have key : ∀ {D : Code}, Tryz.f17.body.bind (fb 1) = some (.block 1 D) → Code.wp Tryz.prog (.block 1 D) Q a W → Code.wp Tryz.prog (.block 1 d) Q a W := fun e h => by
    rw [e] at hcode
    cases hcode
    exact h
  refine key rfl ?_
  clear key hcode
  obtain ⟨hfr, e0, e1, e5, e6, hown, hbel⟩ := ha
  obtain ⟨xs, rfl, hxs⟩ := hfr.lit
  have x0 := hxs 0 _ (by omega) e0
  have x1 := hxs 1 _ (by omega) e1
  have x5 := hxs 5 _ (by omega) e5
  have x6 := hxs 6 _ (by omega) e6
  clear hxs e0 e1 e5 e6 hfr
  simp only [fr, x0, x1, x5, x6]
  clear x0 x1 x5 x6
  have HQ := Lib.hid hQ
  have HE := Lib.hid hE
  have HO := Lib.hid hown
  have HB := Lib.hid hbel
  have HL := Lib.hid hL
  have HN := Lib.hid hn
  obtain ⟨hkl, hke⟩ := List.getElem?_eq_some_iff.1 hkt
  obtain ⟨p0, p1, p2, p3, p4, p5, p6⟩ := (hE.row.below hbel hE.row.lt).cells k hkl
  rw [hke] at p1 p5 p6
  dsimp only at p1 p5 p6
  have hkn : (k : Int) < (n : Int) := by omega
  have hbs := hbel.size
  have hTl := hE.row.lt
  have hk2 : k + 1 < n := by obtain ⟨h, _⟩ := List.getElem?_eq_some_iff.1 hnt; omega
  have HNT := Lib.hid hnt
  clear hnt hQ hE hown hbel hL hn hke hkl hkt
  go_upto_region 6 with fail
  obtain ⟨W2, eW⟩ : ∃ W2, W2 = W.alloc (.cells #[.pointer none, .string s, .int .i32 0, .int .u32 0, .int .u16 0, .int .u8 29, .int .u8 ws] 31) := ⟨_, rfl⟩
  have hA : Box W2 W.heap.size ⟨29, s, ws⟩ := by rw [eW]; exact Box.made W ⟨29, s, ws⟩
  have hB2 : Below W.heap.size W W2 := by rw [eW]; exact (Below.refl _ _).alloc (Nat.le_refl _) _
  rw [← eW]
  clear eW p0 p1 p2 p3 p4 p5 p6
  have HA := Lib.hid hA
  have HB2 := Lib.hid hB2
  obtain ⟨t0, t1, t2, t3, t4, t5, t6, tf⟩ := hA
  dsimp only at t1 t5 t6
  clear hB2
  go_wp2_with fail
  refine (fontsize_any ⟨29, s, ws⟩ lw (fun _ => HL.out) W2 (HE.out.kw.below (HB.out.trans (HB2.out.mono hbs)))).mono ?_
  rintro e w1 ⟨rfl, hb1⟩
  rw [hz]
  have HA1 := Lib.hid (HA.out.later hb1)
  have HB1 := Lib.hid (HB2.out.trans (hb1.mono HB2.out.size))
  clear hb1 t0 t1 t2 t3 t4 t5 t6 tf HA HB2
  obtain ⟨t0, t1, t2, t3, t4, t5, t6, tf⟩ := HA1.out
  dsimp only at t1 t5 t6
  go_wp2_with fail
  refine (low_any HL.out _).mono ?_
  rintro e w2 ⟨rfl, hb2⟩
  have HA2 := Lib.hid (HA1.out.later hb2)
  have HB2 := Lib.hid (HB1.out.trans (hb2.mono HB1.out.size))
  clear hb2 t0 t1 t2 t3 t4 t5 t6 tf HA1 HB1
  obtain ⟨t0, t1, t2, t3, t4, t5, t6, tf⟩ := HA2.out
  dsimp only at t1 t5 t6
  have hs2 := HB2.out.size
  have HO2 := Lib.hid (own_later HO.out HB2.out)
  have HBB := Lib.hid (HB.out.trans (HB2.out.mono hbs))
  clear HO HB
  obtain ⟨hql, hqe⟩ := List.getElem?_eq_some_iff.1 HNT.out
  obtain ⟨q0, q1, q2, q3, q4, q5, q6⟩ := (HE.out.row.below HBB.out hTl).cells (k + 1) hql
  rw [hqe] at q1 q5 q6
  have hk1 : (k : Int) + 1 < (n : Int) := by omega
  have hkb1 : (k : Int) ≤ 100000 := by omega
  have ea : (k + 1) * 7 = k * 7 + 7 := by omega
  have HAL := Lib.hid (fun w => angle_any nt ln hal w)
  clear hqe hql hal ea
  go_wp2_with fail
  refine (HAL.out _).mono ?_
  rintro e w3 ⟨rfl, hb3⟩
  have HA3 := Lib.hid (HA2.out.later hb3)
  have HO3 := Lib.hid (own_later HO2.out hb3)
  have HB3 := Lib.hid (HBB.out.trans (hb3.mono HBB.out.size))
  have hs3 := HB3.out.size
  clear hb3 t0 t1 t2 t3 t4 t5 t6 tf HA2 q0 q1 q2 q3 q4 q5 q6
  obtain ⟨t0, t1, t2, t3, t4, t5, t6, tf⟩ := HA3.out
  dsimp only at t1 t5 t6
  go_wp2_with (first
    | (refine wpList_append_tok w3 rfl (.tmp 84) (.tmp 86) rfl w0.heap.size (.slice a5 l.length c5) l ⟨29, s, ws⟩ rfl HO3.out rfl (by omega) (by omega) ?_
       intro a' c' w9 hown9 hgr9
       have HO9 := Lib.hid hown9
       have HG9 := Lib.hid hgr9
       clear hown9 hgr9)
    | fail)
  have el : (l ++ [(⟨29, s, ws⟩ : TK)]).length = l.length + 1 := by rw [List.length_append]; rfl
  refine HQ.out _ w9 a' c' ⟨⟨rfl, rfl⟩, rfl, rfl, by rw [el]; rfl, rfl, ?_, ?_⟩
  · have h := HO9.out
    rw [el] at h ⊢
    exact h
  · exact HB3.out.trans (below_grown (w := w3) ((Below.refl _ _).alloc (by omega) _) HG9.out HO3.out (by omega))
end Go.Proofs.YtoeahdefgblmoaaGreatDoor

namespace Go.Proofs.YtoeahdefgblmoaaGreatDoor
open Go.RowKit Go.Deep Go.PlainAid Go.Maps Go.Sort

/-- A word as it stands in the input, and what becomes of it. -/
def inW (x : Nat × Int) : TK := ⟨(pwT x.1).1, (pwT x.1).2.1, x.2⟩
def outW (x : Nat × Int) : List TK := if (pwT x.1).2.2.1 then [] else [⟨(pwT x.1).2.2.2.1, (pwT x.1).2.2.2.2, x.2⟩]

set_option maxRecDepth 100000 in
theorem word_wp {d : Code} (hcode : Tryz.f17.body.bind (fb 1) = some (.block 1 d)) (Q : Exit → Act → World → Prop) (a : Act) (W w0 : World) (p : Value) (T capT n cap k : Nat) (L l : List TK) (a5 : Option Addr) (c5 c : Nat) (ws : Int)
    (hE : Env w0 T capT L) (ha : Ent a W w0 p T n cap k l a5 c5) (hn : n = L.length) (hk : k < n) (hkb : k ≤ 100000) (hc : c < 15) (hkt : L[k]? = some (inW (c, ws))) (hl : l.length ≤ 10000) (nt : TK) (ln : ByteArray) (hnt : L[k + 1]? = some nt) (hal : nt.kd = 26 → Low nt.s ln ∧ noAngle ln)
    (hQ : ∀ a' W' a5' c5', Ent a' W' w0 p T n cap k (l ++ outW (c, ws)) a5' c5' → Q .normal a' W') : Code.wp Tryz.prog (.block 1 d) Q a W := by
  match c, hc with
  | 0, _ => exact normal_wp hcode Q a W w0 p T capT n cap k L l a5 c5 ⟨#[110, 111, 114, 109, 97, 108]⟩ ⟨#[110, 111, 114, 109, 97, 108]⟩ ws hE ha hn hk hkt ⟨by decide, by decide, by kernel_rfl⟩ (by kernel_rfl) (by kernel_rfl) hQ
  | 1, _ => exact normal_wp hcode Q a W w0 p T capT n cap k L l a5 c5 ⟨#[78, 79, 82, 77, 65, 76]⟩ ⟨#[110, 111, 114, 109, 97, 108]⟩ ws hE ha hn hk hkt ⟨by decide, by decide, by kernel_rfl⟩ (by kernel_rfl) (by kernel_rfl) hQ
  | 2, _ => exact italic_wp hcode Q a W w0 p T capT n cap k L l a5 c5 ⟨#[105, 116, 97, 108, 105, 99]⟩ ⟨#[105, 116, 97, 108, 105, 99]⟩ ws hE ha hn hk hkt ⟨by decide, by decide, by kernel_rfl⟩ (by kernel_rfl) hl (by kernel_rfl) hQ
  | 3, _ => exact oblique_wp hcode Q a W w0 p T capT n cap k L l a5 c5 ⟨#[111, 98, 108, 105, 113, 117, 101]⟩ ⟨#[111, 98, 108, 105, 113, 117, 101]⟩ ws hE ha hn hk hkt ⟨by decide, by decide, by kernel_rfl⟩ (by kernel_rfl) hl (by kernel_rfl) hkb nt ln hnt hal hQ
  | 4, _ => exact caps_wp hcode Q a W w0 p T capT n cap k L l a5 c5 ⟨#[115, 109, 97, 108, 108, 45, 99, 97, 112, 115]⟩ ⟨#[115, 109, 97, 108, 108, 45, 99, 97, 112, 115]⟩ ws hE ha hn hk hkt ⟨by decide, by decide, by kernel_rfl⟩ (by kernel_rfl) hl (by kernel_rfl) hQ
  | 5, _ => exact bold_wp hcode Q a W w0 p T capT n cap k L l a5 c5 ⟨#[98, 111, 108, 100]⟩ ⟨#[98, 111, 108, 100]⟩ ws hE ha hn hk hkt ⟨by decide, by decide, by kernel_rfl⟩ (by kernel_rfl) hl (by kernel_rfl) (fun a' W' a5' c5' h => hQ a' W' a5' c5' (by rw [show wtT ⟨#[98, 111, 108, 100]⟩ ⟨29, ⟨#[98, 111, 108, 100]⟩, ws⟩ = ⟨30, ⟨#[55, 48, 48]⟩, ws⟩ from if_pos (by kernel_rfl)] at h; exact h))
  | 6, _ => exact bold_wp hcode Q a W w0 p T capT n cap k L l a5 c5 ⟨#[66, 111, 108, 100]⟩ ⟨#[98, 111, 108, 100]⟩ ws hE ha hn hk hkt ⟨by decide, by decide, by kernel_rfl⟩ (by kernel_rfl) hl (by kernel_rfl) (fun a' W' a5' c5' h => hQ a' W' a5' c5' (by rw [show wtT ⟨#[98, 111, 108, 100]⟩ ⟨29, ⟨#[66, 111, 108, 100]⟩, ws⟩ = ⟨30, ⟨#[55, 48, 48]⟩, ws⟩ from if_pos (by kernel_rfl)] at h; exact h))
  | 7, _ => exact bolder_wp hcode Q a W w0 p T capT n cap k L l a5 c5 ⟨#[98, 111, 108, 100, 101, 114]⟩ ⟨#[98, 111, 108, 100, 101, 114]⟩ ws hE ha hn hk hkt ⟨by decide, by decide, by kernel_rfl⟩ (by kernel_rfl) hl (by kernel_rfl) (fun a' W' a5' c5' h => hQ a' W' a5' c5' (by rw [show wtT ⟨#[98, 111, 108, 100, 101, 114]⟩ ⟨29, ⟨#[98, 111, 108, 100, 101, 114]⟩, ws⟩ = ⟨29, ⟨#[98, 111, 108, 100, 101, 114]⟩, ws⟩ from if_neg (by decide +kernel)] at h; exact h))
  | 8, _ => exact lighter_wp hcode Q a W w0 p T capT n cap k L l a5 c5 ⟨#[76, 73, 71, 72, 84, 69, 82]⟩ ⟨#[108, 105, 103, 104, 116, 101, 114]⟩ ws hE ha hn hk hkt ⟨by decide, by decide, by kernel_rfl⟩ (by kernel_rfl) hl (by kernel_rfl) (fun a' W' a5' c5' h => hQ a' W' a5' c5' (by rw [show wtT ⟨#[108, 105, 103, 104, 116, 101, 114]⟩ ⟨29, ⟨#[76, 73, 71, 72, 84, 69, 82]⟩, ws⟩ = ⟨29, ⟨#[76, 73, 71, 72, 84, 69, 82]⟩, ws⟩ from if_neg (by decide +kernel)] at h; exact h))
  | 9, _ => exact condensed_wp hcode Q a W w0 p T capT n cap k L l a5 c5 ⟨#[99, 111, 110, 100, 101, 110, 115, 101, 100]⟩ ⟨#[99, 111, 110, 100, 101, 110, 115, 101, 100]⟩ ws hE ha hn hk hkt ⟨by decide, by decide, by kernel_rfl⟩ (by kernel_rfl) hl (by kernel_rfl) hQ
  | 10, _ => exact ultra_wp hcode Q a W w0 p T capT n cap k L l a5 c5 ⟨#[85, 108, 116, 114, 97, 45, 69, 120, 112, 97, 110, 100, 101, 100]⟩ ⟨#[117, 108, 116, 114, 97, 45, 101, 120, 112, 97, 110, 100, 101, 100]⟩ ws hE ha hn hk hkt ⟨by decide, by decide, by kernel_rfl⟩ (by kernel_rfl) hl (by kernel_rfl) hQ
  | 11, _ => exact number_wp hcode Q a W w0 p T capT n cap k L l a5 c5 ⟨#[52, 48, 48]⟩ ws hE ha hn hk hkt hl (fun w h => okay_400 w h) hQ
  | 12, _ => exact number_wp hcode Q a W w0 p T capT n cap k L l a5 c5 ⟨#[49]⟩ ws hE ha hn hk hkt hl (fun w h => okay_1 w h) hQ
  | 13, _ => exact number_wp hcode Q a W w0 p T capT n cap k L l a5 c5 ⟨#[49, 48, 48, 48]⟩ ws hE ha hn hk hkt hl (fun w h => okay_1000 w h) hQ
  | 14, _ => exact number_wp hcode Q a W w0 p T capT n cap k L l a5 c5 ⟨#[53, 53, 48, 46, 53]⟩ ws hE ha hn hk hkt hl (fun w h => okay_dot w h) hQ
end Go.Proofs.YtoeahdefgblmoaaGreatDoor
