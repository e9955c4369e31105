/-
  The other words of mangleFont's first loop, of any spelling; a word that is none of them.
  Then: A number in mangleFont's first loop, of any spelling.
-/
import Derived.Test.YtoeahdefgblmoaaGreatDoorL5
namespace Go.Proofs.YtoeahdefgblmoaaGreatDoor
open Go.RowKit Go.Deep Go.PlainAid Go.Maps Go.Sort

set_option maxHeartbeats 4000000 in
set_option maxRecDepth 100000 in
theorem u_normal_wp {d : Code} (hcode : Tryz.f17.body.bind (fb 1) = some (.block 1 d)) (Q : Exit → Act → World → Prop) (a : Act) (W w0 : World) (p : Value) (T capT n cap k : Nat) (L l : List TK) (a5 : Option Addr) (c5 : Nat) (s lw : ByteArray) (ws : Int)
    (hE : Env1 w0 T capT L) (ha : Ent a W w0 p T n cap k l a5 c5) (hn : n = L.length) (hk : k < n) (hkt : L[k]? = some ⟨29, s, ws⟩) (hs : s.size ≤ 1048576) (hL : lowT s = lw) (hz : isSz 29 lw = false) (_ : l.length ≤ 10000) (hx : lw.toList = [110, 111, 114, 109, 97, 108])
    (hQ : ∀ a' W' a5' c5', Ent a' W' w0 p T n cap k (l ++ []) a5' c5' → Q .normal a' W') : Code.wp Tryz.prog (.block 1 d) Q a W := by
  have key : ∀ {D : Code}, Tryz.f17.body.bind (fb 1) = some (.block 1 D) → Code.wp Tryz.prog (.block 1 D) Q a W → Code.wp Tryz.prog (.block 1 d) Q a W := fun e h => by
    rw [e] at hcode
    cases hcode
    exact h
  refine key rfl ?_
  clear key hcode
  obtain ⟨hfr, e0, e1, e5, e6, hown, hbel⟩ := ha
  obtain ⟨xs, rfl, hxs⟩ := hfr.lit
  have x0 := hxs 0 _ (by omega) e0
  have x1 := hxs 1 _ (by omega) e1
  have x5 := hxs 5 _ (by omega) e5
  have x6 := hxs 6 _ (by omega) e6
  clear hxs e0 e1 e5 e6 hfr
  simp only [fr, x0, x1, x5, x6]
  clear x0 x1 x5 x6
  have HQ := Lib.hid hQ
  have HE := Lib.hid hE
  have HO := Lib.hid hown
  have HB := Lib.hid hbel
  have HL := Lib.hid (And.intro hs (And.intro hL hz))
  have HN := Lib.hid hn
  obtain ⟨hkl, hke⟩ := List.getElem?_eq_some_iff.1 hkt
  obtain ⟨p0, p1, p2, p3, p4, p5, p6⟩ := (hE.row.below hbel hE.row.lt).cells k hkl
  rw [hke] at p1 p5 p6
  dsimp only at p1 p5 p6
  have hkn : (k : Int) < (n : Int) := by omega
  have hbs := hbel.size
  have hTl := hE.row.lt
  clear hQ hE hown hbel hL hz hs hn hke hkl hkt
  go_upto_region 6 with fail
  obtain ⟨W2, eW⟩ : ∃ W2, W2 = W.alloc (.cells #[.pointer none, .string s, .int .i32 0, .int .u32 0, .int .u16 0, .int .u8 29, .int .u8 ws] 31) := ⟨_, rfl⟩
  have hA : Box W2 W.heap.size ⟨29, s, ws⟩ := by rw [eW]; exact Box.made W ⟨29, s, ws⟩
  have hB2 : Below W.heap.size W W2 := by rw [eW]; exact (Below.refl _ _).alloc (Nat.le_refl _) _
  rw [← eW]
  clear eW p0 p1 p2 p3 p4 p5 p6
  have HA := Lib.hid hA
  have HB2 := Lib.hid hB2
  obtain ⟨t0, t1, t2, t3, t4, t5, t6, tf⟩ := hA
  dsimp only at t1 t5 t6
  clear hB2
  go_wp2_with fail
  refine (fontsize_uni ⟨29, s, ws⟩ W2 HL.out.1 (HE.out.un.below (HB.out.trans (HB2.out.mono hbs))) (HE.out.kw.below (HB.out.trans (HB2.out.mono hbs)))).mono ?_
  rintro e w1 ⟨rfl, hb1⟩
  rw [show isSz (TK.mk 29 s ws).kd (lowT (TK.mk 29 s ws).s) = false by show isSz 29 (lowT s) = false; rw [HL.out.2.1]; exact HL.out.2.2]
  have HA1 := Lib.hid (HA.out.later hb1)
  have HB1 := Lib.hid (HB2.out.trans (hb1.mono HB2.out.size))
  clear hb1 t0 t1 t2 t3 t4 t5 t6 tf HA HB2
  obtain ⟨t0, t1, t2, t3, t4, t5, t6, tf⟩ := HA1.out
  dsimp only at t1 t5 t6
  go_wp2_with fail
  refine (HE.out.low (HB.out.trans (HB1.out.mono hbs)) s HL.out.1).mono ?_
  rintro e w2 ⟨rfl, hb2⟩
  rw [HL.out.2.1]
  have HA2 := Lib.hid (HA1.out.later hb2)
  have HB2 := Lib.hid (HB1.out.trans (hb2.mono HB1.out.size))
  clear hb2 t0 t1 t2 t3 t4 t5 t6 tf HA1 HB1
  obtain ⟨t0, t1, t2, t3, t4, t5, t6, tf⟩ := HA2.out
  dsimp only at t1 t5 t6
  have hs2 := HB2.out.size
  have HO2 := Lib.hid (own_later HO.out HB2.out)
  have HBB := Lib.hid (HB.out.trans (HB2.out.mono hbs))
  clear HO HB
  go_wp2_with fail
  refine HQ.out _ w2 a5 c5 ⟨⟨rfl, rfl⟩, rfl, rfl, by rw [List.append_nil]; rfl, rfl, ?_, HBB.out⟩
  rw [List.append_nil]
  exact HO2.out

set_option maxHeartbeats 4000000 in
set_option maxRecDepth 100000 in
theorem u_bold_wp {d : Code} (hcode : Tryz.f17.body.bind (fb 1) = some (.block 1 d)) (Q : Exit → Act → World → Prop) (a : Act) (W w0 : World) (p : Value) (T capT n cap k : Nat) (L l : List TK) (a5 : Option Addr) (c5 : Nat) (s lw : ByteArray) (ws : Int)
    (hE : Env1 w0 T capT L) (ha : Ent a W w0 p T n cap k l a5 c5) (hn : n = L.length) (hk : k < n) (hkt : L[k]? = some ⟨29, s, ws⟩) (hs : s.size ≤ 1048576) (hL : lowT s = lw) (hz : isSz 29 lw = false) (hl : l.length ≤ 10000) (hx : lw.toList = [98, 111, 108, 100])
    (hQ : ∀ tk a' W' a5' c5', Ent a' W' w0 p T n cap k (l ++ [tk]) a5' c5' → Q .normal a' W') : Code.wp Tryz.prog (.block 1 d) Q a W := by
  have key : ∀ {D : Code}, Tryz.f17.body.bind (fb 1) = some (.block 1 D) → Code.wp Tryz.prog (.block 1 D) Q a W → Code.wp Tryz.prog (.block 1 d) Q a W := fun e h => by
    rw [e] at hcode
    cases hcode
    exact h
  refine key rfl ?_
  clear key hcode
  obtain ⟨hfr, e0, e1, e5, e6, hown, hbel⟩ := ha
  obtain ⟨xs, rfl, hxs⟩ := hfr.lit
  have x0 := hxs 0 _ (by omega) e0
  have x1 := hxs 1 _ (by omega) e1
  have x5 := hxs 5 _ (by omega) e5
  have x6 := hxs 6 _ (by omega) e6
  clear hxs e0 e1 e5 e6 hfr
  simp only [fr, x0, x1, x5, x6]
  clear x0 x1 x5 x6
  have HQ := Lib.hid hQ
  have HE := Lib.hid hE
  have HO := Lib.hid hown
  have HB := Lib.hid hbel
  have HL := Lib.hid (And.intro hs (And.intro hL hz))
  have HN := Lib.hid hn
  have HX := Lib.hid hx
  obtain ⟨hkl, hke⟩ := List.getElem?_eq_some_iff.1 hkt
  obtain ⟨p0, p1, p2, p3, p4, p5, p6⟩ := (hE.row.below hbel hE.row.lt).cells k hkl
  rw [hke] at p1 p5 p6
  dsimp only at p1 p5 p6
  have hkn : (k : Int) < (n : Int) := by omega
  have hbs := hbel.size
  have hTl := hE.row.lt
  clear hQ hE hown hbel hL hz hs hn hke hkl hkt
  go_upto_region 6 with fail
  obtain ⟨W2, eW⟩ : ∃ W2, W2 = W.alloc (.cells #[.pointer none, .string s, .int .i32 0, .int .u32 0, .int .u16 0, .int .u8 29, .int .u8 ws] 31) := ⟨_, rfl⟩
  have hA : Box W2 W.heap.size ⟨29, s, ws⟩ := by rw [eW]; exact Box.made W ⟨29, s, ws⟩
  have hB2 : Below W.heap.size W W2 := by rw [eW]; exact (Below.refl _ _).alloc (Nat.le_refl _) _
  rw [← eW]
  clear eW p0 p1 p2 p3 p4 p5 p6
  have HA := Lib.hid hA
  have HB2 := Lib.hid hB2
  obtain ⟨t0, t1, t2, t3, t4, t5, t6, tf⟩ := hA
  dsimp only at t1 t5 t6
  clear hB2
  go_wp2_with fail
  refine (fontsize_uni ⟨29, s, ws⟩ W2 HL.out.1 (HE.out.un.below (HB.out.trans (HB2.out.mono hbs))) (HE.out.kw.below (HB.out.trans (HB2.out.mono hbs)))).mono ?_
  rintro e w1 ⟨rfl, hb1⟩
  rw [show isSz (TK.mk 29 s ws).kd (lowT (TK.mk 29 s ws).s) = false by show isSz 29 (lowT s) = false; rw [HL.out.2.1]; exact HL.out.2.2]
  have HA1 := Lib.hid (HA.out.later hb1)
  have HB1 := Lib.hid (HB2.out.trans (hb1.mono HB2.out.size))
  clear hb1 t0 t1 t2 t3 t4 t5 t6 tf HA HB2
  obtain ⟨t0, t1, t2, t3, t4, t5, t6, tf⟩ := HA1.out
  dsimp only at t1 t5 t6
  go_wp2_with fail
  refine (HE.out.low (HB.out.trans (HB1.out.mono hbs)) s HL.out.1).mono ?_
  rintro e w2 ⟨rfl, hb2⟩
  rw [HL.out.2.1]
  have HA2 := Lib.hid (HA1.out.later hb2)
  have HB2 := Lib.hid (HB1.out.trans (hb2.mono HB1.out.size))
  clear hb2 t0 t1 t2 t3 t4 t5 t6 tf HA1 HB1
  obtain ⟨t0, t1, t2, t3, t4, t5, t6, tf⟩ := HA2.out
  dsimp only at t1 t5 t6
  have hs2 := HB2.out.size
  have HO2 := Lib.hid (own_later HO.out HB2.out)
  have HBB := Lib.hid (HB.out.trans (HB2.out.mono hbs))
  clear HO HB
  go_wp2_with fail
  refine (weight_uni true p s lw ws HL.out.1 HL.out.2.1.symm (by rw [HX.out]; decide) (by rw [HX.out]; decide) w2 (HE.out.un.below HBB.out)).mono ?_
  rintro e w3 ⟨rfl, hb3⟩
  obtain ⟨tk, etk⟩ : ∃ tk : TK, tk = ⟨if true = true then 30 else 29, if true = true then ⟨#[55, 48, 48]⟩ else s, ws⟩ := ⟨_, rfl⟩
  have HTK := Lib.hid etk
  have hv : (Value.agg #[.pointer none, .string (if true = true then ⟨#[55, 48, 48]⟩ else s), .int .i32 0, .int .u32 0, .int .u16 0, .int .u8 (if true = true then 30 else 29), .int .u8 ws]) = Value.agg #[.pointer none, .string tk.s, .int .i32 0, .int .u32 0, .int .u16 0, .int .u8 tk.kd, .int .u8 tk.ws] := by rw [etk]
  rw [hv]
  have HO3 := Lib.hid (own_later HO2.out hb3)
  have HB3 := Lib.hid (HBB.out.trans (hb3.mono HBB.out.size))
  have hs3 := HB3.out.size
  clear hv hb3 t0 t1 t2 t3 t4 t5 t6 tf HA2 etk
  go_wp2_with (first
    | (refine wpList_append_tok w3 rfl (.tmp 69) (.tmp 73) rfl w0.heap.size (.slice a5 l.length c5) l tk rfl HO3.out rfl (by omega) (by omega) ?_
       intro a' c' w9 hown9 hgr9
       have HO9 := Lib.hid hown9
       have HG9 := Lib.hid hgr9
       clear hown9 hgr9)
    | fail)
  have el : (l ++ [(tk : TK)]).length = l.length + 1 := by rw [List.length_append]; rfl
  refine HQ.out tk _ w9 a' c' ⟨⟨rfl, rfl⟩, rfl, rfl, by rw [el]; rfl, rfl, ?_, ?_⟩
  · have h := HO9.out
    rw [el] at h ⊢
    exact h
  · exact HB3.out.trans (below_grown (w := w3) ((Below.refl _ _).alloc (by omega) _) HG9.out HO3.out (by omega))

set_option maxHeartbeats 4000000 in
set_option maxRecDepth 100000 in
theorem u_bolder_wp {d : Code} (hcode : Tryz.f17.body.bind (fb 1) = some (.block 1 d)) (Q : Exit → Act → World → Prop) (a : Act) (W w0 : World) (p : Value) (T capT n cap k : Nat) (L l : List TK) (a5 : Option Addr) (c5 : Nat) (s lw : ByteArray) (ws : Int)
    (hE : Env1 w0 T capT L) (ha : Ent a W w0 p T n cap k l a5 c5) (hn : n = L.length) (hk : k < n) (hkt : L[k]? = some ⟨29, s, ws⟩) (hs : s.size ≤ 1048576) (hL : lowT s = lw) (hz : isSz 29 lw = false) (hl : l.length ≤ 10000) (hx : lw.toList = [98, 111, 108, 100, 101, 114])
    (hQ : ∀ tk a' W' a5' c5', Ent a' W' w0 p T n cap k (l ++ [tk]) a5' c5' → Q .normal a' W') : Code.wp Tryz.prog (.block 1 d) Q a W := by
  have key : ∀ {D : Code}, Tryz.f17.body.bind (fb 1) = some (.block 1 D) → Code.wp Tryz.prog (.block 1 D) Q a W → Code.wp Tryz.prog (.block 1 d) Q a W := fun e h => by
    rw [e] at hcode
    cases hcode
    exact h
  refine key rfl ?_
  clear key hcode
  obtain ⟨hfr, e0, e1, e5, e6, hown, hbel⟩ := ha
  obtain ⟨xs, rfl, hxs⟩ := hfr.lit
  have x0 := hxs 0 _ (by omega) e0
  have x1 := hxs 1 _ (by omega) e1
  have x5 := hxs 5 _ (by omega) e5
  have x6 := hxs 6 _ (by omega) e6
  clear hxs e0 e1 e5 e6 hfr
  simp only [fr, x0, x1, x5, x6]
  clear x0 x1 x5 x6
  have HQ := Lib.hid hQ
  have HE := Lib.hid hE
  have HO := Lib.hid hown
  have HB := Lib.hid hbel
  have HL := Lib.hid (And.intro hs (And.intro hL hz))
  have HN := Lib.hid hn
  have HX := Lib.hid hx
  obtain ⟨hkl, hke⟩ := List.getElem?_eq_some_iff.1 hkt
  obtain ⟨p0, p1, p2, p3, p4, p5, p6⟩ := (hE.row.below hbel hE.row.lt).cells k hkl
  rw [hke] at p1 p5 p6
  dsimp only at p1 p5 p6
  have hkn : (k : Int) < (n : Int) := by omega
  have hbs := hbel.size
  have hTl := hE.row.lt
  clear hQ hE hown hbel hL hz hs hn hke hkl hkt
  go_upto_region 6 with fail
  obtain ⟨W2, eW⟩ : ∃ W2, W2 = W.alloc (.cells #[.pointer none, .string s, .int .i32 0, .int .u32 0, .int .u16 0, .int .u8 29, .int .u8 ws] 31) := ⟨_, rfl⟩
  have hA : Box W2 W.heap.size ⟨29, s, ws⟩ := by rw [eW]; exact Box.made W ⟨29, s, ws⟩
  have hB2 : Below W.heap.size W W2 := by rw [eW]; exact (Below.refl _ _).alloc (Nat.le_refl _) _
  rw [← eW]
  clear eW p0 p1 p2 p3 p4 p5 p6
  have HA := Lib.hid hA
  have HB2 := Lib.hid hB2
  obtain ⟨t0, t1, t2, t3, t4, t5, t6, tf⟩ := hA
  dsimp only at t1 t5 t6
  clear hB2
  go_wp2_with fail
  refine (fontsize_uni ⟨29, s, ws⟩ W2 HL.out.1 (HE.out.un.below (HB.out.trans (HB2.out.mono hbs))) (HE.out.kw.below (HB.out.trans (HB2.out.mono hbs)))).mono ?_
  rintro e w1 ⟨rfl, hb1⟩
  rw [show isSz (TK.mk 29 s ws).kd (lowT (TK.mk 29 s ws).s) = false by show isSz 29 (lowT s) = false; rw [HL.out.2.1]; exact HL.out.2.2]
  have HA1 := Lib.hid (HA.out.later hb1)
  have HB1 := Lib.hid (HB2.out.trans (hb1.mono HB2.out.size))
  clear hb1 t0 t1 t2 t3 t4 t5 t6 tf HA HB2
  obtain ⟨t0, t1, t2, t3, t4, t5, t6, tf⟩ := HA1.out
  dsimp only at t1 t5 t6
  go_wp2_with fail
  refine (HE.out.low (HB.out.trans (HB1.out.mono hbs)) s HL.out.1).mono ?_
  rintro e w2 ⟨rfl, hb2⟩
  rw [HL.out.2.1]
  have HA2 := Lib.hid (HA1.out.later hb2)
  have HB2 := Lib.hid (HB1.out.trans (hb2.mono HB1.out.size))
  clear hb2 t0 t1 t2 t3 t4 t5 t6 tf HA1 HB1
  obtain ⟨t0, t1, t2, t3, t4, t5, t6, tf⟩ := HA2.out
  dsimp only at t1 t5 t6
  have hs2 := HB2.out.size
  have HO2 := Lib.hid (own_later HO.out HB2.out)
  have HBB := Lib.hid (HB.out.trans (HB2.out.mono hbs))
  clear HO HB
  go_wp2_with fail
  refine (weight_uni false p s lw ws HL.out.1 HL.out.2.1.symm (by rw [HX.out]; decide) (by rw [HX.out]; decide) w2 (HE.out.un.below HBB.out)).mono ?_
  rintro e w3 ⟨rfl, hb3⟩
  obtain ⟨tk, etk⟩ : ∃ tk : TK, tk = ⟨if false = true then 30 else 29, if false = true then ⟨#[55, 48, 48]⟩ else s, ws⟩ := ⟨_, rfl⟩
  have HTK := Lib.hid etk
  have hv : (Value.agg #[.pointer none, .string (if false = true then ⟨#[55, 48, 48]⟩ else s), .int .i32 0, .int .u32 0, .int .u16 0, .int .u8 (if false = true then 30 else 29), .int .u8 ws]) = Value.agg #[.pointer none, .string tk.s, .int .i32 0, .int .u32 0, .int .u16 0, .int .u8 tk.kd, .int .u8 tk.ws] := by rw [etk]
  rw [hv]
  have HO3 := Lib.hid (own_later HO2.out hb3)
  have HB3 := Lib.hid (HBB.out.trans (hb3.mono HBB.out.size))
  have hs3 := HB3.out.size
  clear hv hb3 t0 t1 t2 t3 t4 t5 t6 tf HA2 etk
  go_wp2_with (first
    | (refine wpList_append_tok w3 rfl (.tmp 69) (.tmp 73) rfl w0.heap.size (.slice a5 l.length c5) l tk rfl HO3.out rfl (by omega) (by omega) ?_
       intro a' c' w9 hown9 hgr9
       have HO9 := Lib.hid hown9
       have HG9 := Lib.hid hgr9
       clear hown9 hgr9)
    | fail)
  have el : (l ++ [(tk : TK)]).length = l.length + 1 := by rw [List.length_append]; rfl
  refine HQ.out tk _ w9 a' c' ⟨⟨rfl, rfl⟩, rfl, rfl, by rw [el]; rfl, rfl, ?_, ?_⟩
  · have h := HO9.out
    rw [el] at h ⊢
    exact h
  · exact HB3.out.trans (below_grown (w := w3) ((Below.refl _ _).alloc (by omega) _) HG9.out HO3.out (by omega))

set_option maxHeartbeats 4000000 in
set_option maxRecDepth 100000 in
theorem u_lighter_wp {d : Code} (hcode : Tryz.f17.body.bind (fb 1) = some (.block 1 d)) (Q : Exit → Act → World → Prop) (a : Act) (W w0 : World) (p : Value) (T capT n cap k : Nat) (L l : List TK) (a5 : Option Addr) (c5 : Nat) (s lw : ByteArray) (ws : Int)
    (hE : Env1 w0 T capT L) (ha : Ent a W w0 p T n cap k l a5 c5) (hn : n = L.length) (hk : k < n) (hkt : L[k]? = some ⟨29, s, ws⟩) (hs : s.size ≤ 1048576) (hL : lowT s = lw) (hz : isSz 29 lw = false) (hl : l.length ≤ 10000) (hx : lw.toList = [108, 105, 103, 104, 116, 101, 114])
    (hQ : ∀ tk a' W' a5' c5', Ent a' W' w0 p T n cap k (l ++ [tk]) a5' c5' → Q .normal a' W') : Code.wp Tryz.prog (.block 1 d) Q a W := by
  have key : ∀ {D : Code}, Tryz.f17.body.bind (fb 1) = some (.block 1 D) → Code.wp Tryz.prog (.block 1 D) Q a W → Code.wp Tryz.prog (.block 1 d) Q a W := fun e h => by
    rw [e] at hcode
    cases hcode
    exact h
  refine key rfl ?_
  clear key hcode
  obtain ⟨hfr, e0, e1, e5, e6, hown, hbel⟩ := ha
  obtain ⟨xs, rfl, hxs⟩ := hfr.lit
  have x0 := hxs 0 _ (by omega) e0
  have x1 := hxs 1 _ (by omega) e1
  have x5 := hxs 5 _ (by omega) e5
  have x6 := hxs 6 _ (by omega) e6
  clear hxs e0 e1 e5 e6 hfr
  simp only [fr, x0, x1, x5, x6]
  clear x0 x1 x5 x6
  have HQ := Lib.hid hQ
  have HE := Lib.hid hE
  have HO := Lib.hid hown
  have HB := Lib.hid hbel
  have HL := Lib.hid (And.intro hs (And.intro hL hz))
  have HN := Lib.hid hn
  have HX := Lib.hid hx
  obtain ⟨hkl, hke⟩ := List.getElem?_eq_some_iff.1 hkt
  obtain ⟨p0, p1, p2, p3, p4, p5, p6⟩ := (hE.row.below hbel hE.row.lt).cells k hkl
  rw [hke] at p1 p5 p6
  dsimp only at p1 p5 p6
  have hkn : (k : Int) < (n : Int) := by omega
  have hbs := hbel.size
  have hTl := hE.row.lt
  clear hQ hE hown hbel hL hz hs hn hke hkl hkt
  go_upto_region 6 with fail
  obtain ⟨W2, eW⟩ : ∃ W2, W2 = W.alloc (.cells #[.pointer none, .string s, .int .i32 0, .int .u32 0, .int .u16 0, .int .u8 29, .int .u8 ws] 31) := ⟨_, rfl⟩
  have hA : Box W2 W.heap.size ⟨29, s, ws⟩ := by rw [eW]; exact Box.made W ⟨29, s, ws⟩
  have hB2 : Below W.heap.size W W2 := by rw [eW]; exact (Below.refl _ _).alloc (Nat.le_refl _) _
  rw [← eW]
  clear eW p0 p1 p2 p3 p4 p5 p6
  have HA := Lib.hid hA
  have HB2 := Lib.hid hB2
  obtain ⟨t0, t1, t2, t3, t4, t5, t6, tf⟩ := hA
  dsimp only at t1 t5 t6
  clear hB2
  go_wp2_with fail
  refine (fontsize_uni ⟨29, s, ws⟩ W2 HL.out.1 (HE.out.un.below (HB.out.trans (HB2.out.mono hbs))) (HE.out.kw.below (HB.out.trans (HB2.out.mono hbs)))).mono ?_
  rintro e w1 ⟨rfl, hb1⟩
  rw [show isSz (TK.mk 29 s ws).kd (lowT (TK.mk 29 s ws).s) = false by show isSz 29 (lowT s) = false; rw [HL.out.2.1]; exact HL.out.2.2]
  have HA1 := Lib.hid (HA.out.later hb1)
  have HB1 := Lib.hid (HB2.out.trans (hb1.mono HB2.out.size))
  clear hb1 t0 t1 t2 t3 t4 t5 t6 tf HA HB2
  obtain ⟨t0, t1, t2, t3, t4, t5, t6, tf⟩ := HA1.out
  dsimp only at t1 t5 t6
  go_wp2_with fail
  refine (HE.out.low (HB.out.trans (HB1.out.mono hbs)) s HL.out.1).mono ?_
  rintro e w2 ⟨rfl, hb2⟩
  rw [HL.out.2.1]
  have HA2 := Lib.hid (HA1.out.later hb2)
  have HB2 := Lib.hid (HB1.out.trans (hb2.mono HB1.out.size))
  clear hb2 t0 t1 t2 t3 t4 t5 t6 tf HA1 HB1
  obtain ⟨t0, t1, t2, t3, t4, t5, t6, tf⟩ := HA2.out
  dsimp only at t1 t5 t6
  have hs2 := HB2.out.size
  have HO2 := Lib.hid (own_later HO.out HB2.out)
  have HBB := Lib.hid (HB.out.trans (HB2.out.mono hbs))
  clear HO HB
  go_wp2_with fail
  refine (weight_uni false p s lw ws HL.out.1 HL.out.2.1.symm (by rw [HX.out]; decide) (by rw [HX.out]; decide) w2 (HE.out.un.below HBB.out)).mono ?_
  rintro e w3 ⟨rfl, hb3⟩
  obtain ⟨tk, etk⟩ : ∃ tk : TK, tk = ⟨if false = true then 30 else 29, if false = true then ⟨#[55, 48, 48]⟩ else s, ws⟩ := ⟨_, rfl⟩
  have HTK := Lib.hid etk
  have hv : (Value.agg #[.pointer none, .string (if false = true then ⟨#[55, 48, 48]⟩ else s), .int .i32 0, .int .u32 0, .int .u16 0, .int .u8 (if false = true then 30 else 29), .int .u8 ws]) = Value.agg #[.pointer none, .string tk.s, .int .i32 0, .int .u32 0, .int .u16 0, .int .u8 tk.kd, .int .u8 tk.ws] := by rw [etk]
  rw [hv]
  have HO3 := Lib.hid (own_later HO2.out hb3)
  have HB3 := Lib.hid (HBB.out.trans (hb3.mono HBB.out.size))
  have hs3 := HB3.out.size
  clear hv hb3 t0 t1 t2 t3 t4 t5 t6 tf HA2 etk
  go_wp2_with (first
    | (refine wpList_append_tok w3 rfl (.tmp 69) (.tmp 73) rfl w0.heap.size (.slice a5 l.length c5) l tk rfl HO3.out rfl (by omega) (by omega) ?_
       intro a' c' w9 hown9 hgr9
       have HO9 := Lib.hid hown9
       have HG9 := Lib.hid hgr9
       clear hown9 hgr9)
    | fail)
  have el : (l ++ [(tk : TK)]).length = l.length + 1 := by rw [List.length_append]; rfl
  refine HQ.out tk _ w9 a' c' ⟨⟨rfl, rfl⟩, rfl, rfl, by rw [el]; rfl, rfl, ?_, ?_⟩
  · have h := HO9.out
    rw [el] at h ⊢
    exact h
  · exact HB3.out.trans (below_grown (w := w3) ((Below.refl _ _).alloc (by omega) _) HG9.out HO3.out (by omega))

set_option maxHeartbeats 4000000 in
set_option maxRecDepth 100000 in
theorem u_none_wp {d : Code} (hcode : Tryz.f17.body.bind (fb 1) = some (.block 1 d)) (Q : Exit → Act → World → Prop) (a : Act) (W w0 : World) (p : Value) (T capT n cap k : Nat) (L l : List TK) (a5 : Option Addr) (c5 : Nat) (s lw : ByteArray) (ws : Int)
    (hE : Env1 w0 T capT L) (ha : Ent a W w0 p T n cap k l a5 c5) (hn : n = L.length) (hk : k < n) (hkt : L[k]? = some ⟨29, s, ws⟩) (hs : s.size ≤ 1048576) (hL : lowT s = lw) (hz : isSz 29 lw = false) (n0 : (lw.toList == [110, 111, 114, 109, 97, 108]) = false) (n1 : (lw.toList == [105, 116, 97, 108, 105, 99]) = false) (n2 : (lw.toList == [111, 98, 108, 105, 113, 117, 101]) = false) (n3 : (lw.toList == [115, 109, 97, 108, 108, 45, 99, 97, 112, 115]) = false) (n4 : (lw.toList == [98, 111, 108, 100]) = false) (n5 : (lw.toList == [98, 111, 108, 100, 101, 114]) = false) (n6 : (lw.toList == [108, 105, 103, 104, 116, 101, 114]) = false) (n7 : (lw.toList == [117, 108, 116, 114, 97, 45, 99, 111, 110, 100, 101, 110, 115, 101, 100]) = false) (n8 : (lw.toList == [101, 120, 116, 114, 97, 45, 99, 111, 110, 100, 101, 110, 115, 101, 100]) = false) (n9 : (lw.toList == [99, 111, 110, 100, 101, 110, 115, 101, 100]) = false) (n10 : (lw.toList == [115, 101, 109, 105, 45, 99, 111, 110, 100, 101, 110, 115, 101, 100]) = false) (n11 : (lw.toList == [115, 101, 109, 105, 45, 101, 120, 112, 97, 110, 100, 101, 100]) = false) (n12 : (lw.toList == [101, 120, 112, 97, 110, 100, 101, 100]) = false) (n13 : (lw.toList == [101, 120, 116, 114, 97, 45, 101, 120, 112, 97, 110, 100, 101, 100]) = false) (n14 : (lw.toList == [117, 108, 116, 114, 97, 45, 101, 120, 112, 97, 110, 100, 101, 100]) = false)
    (hQ : ∀ a' W', Fr a' → a'.tmps[4]? = some (.slice (some ⟨T, 0, none⟩) n cap) → Below w0.heap.size w0 W' → Q .ret a' W') : Code.wp Tryz.prog (.block 1 d) Q a W := by
  have key : ∀ {D : Code}, Tryz.f17.body.bind (fb 1) = some (.block 1 D) → Code.wp Tryz.prog (.block 1 D) Q a W → Code.wp Tryz.prog (.block 1 d) Q a W := fun e h => by
    rw [e] at hcode
    cases hcode
    exact h
  refine key rfl ?_
  clear key hcode
  obtain ⟨hfr, e0, e1, e5, e6, hown, hbel⟩ := ha
  obtain ⟨xs, rfl, hxs⟩ := hfr.lit
  have x0 := hxs 0 _ (by omega) e0
  have x1 := hxs 1 _ (by omega) e1
  have x5 := hxs 5 _ (by omega) e5
  have x6 := hxs 6 _ (by omega) e6
  clear hxs e0 e1 e5 e6 hfr
  simp only [fr, x0, x1, x5, x6]
  clear x0 x1 x5 x6
  have HQ := Lib.hid hQ
  have HE := Lib.hid hE
  have HO := Lib.hid hown
  have HB := Lib.hid hbel
  have HL := Lib.hid (And.intro hs (And.intro hL hz))
  have HN := Lib.hid hn
  obtain ⟨hkl, hke⟩ := List.getElem?_eq_some_iff.1 hkt
  obtain ⟨p0, p1, p2, p3, p4, p5, p6⟩ := (hE.row.below hbel hE.row.lt).cells k hkl
  rw [hke] at p1 p5 p6
  dsimp only at p1 p5 p6
  have hkn : (k : Int) < (n : Int) := by omega
  have hbs := hbel.size
  have hTl := hE.row.lt
  clear hQ hE hown hbel hL hz hs hn hke hkl hkt
  go_upto_region 6 with fail
  obtain ⟨W2, eW⟩ : ∃ W2, W2 = W.alloc (.cells #[.pointer none, .string s, .int .i32 0, .int .u32 0, .int .u16 0, .int .u8 29, .int .u8 ws] 31) := ⟨_, rfl⟩
  have hA : Box W2 W.heap.size ⟨29, s, ws⟩ := by rw [eW]; exact Box.made W ⟨29, s, ws⟩
  have hB2 : Below W.heap.size W W2 := by rw [eW]; exact (Below.refl _ _).alloc (Nat.le_refl _) _
  rw [← eW]
  clear eW p0 p1 p2 p3 p4 p5 p6
  have HA := Lib.hid hA
  have HB2 := Lib.hid hB2
  obtain ⟨t0, t1, t2, t3, t4, t5, t6, tf⟩ := hA
  dsimp only at t1 t5 t6
  clear hB2
  go_wp2_with fail
  refine (fontsize_uni ⟨29, s, ws⟩ W2 HL.out.1 (HE.out.un.below (HB.out.trans (HB2.out.mono hbs))) (HE.out.kw.below (HB.out.trans (HB2.out.mono hbs)))).mono ?_
  rintro e w1 ⟨rfl, hb1⟩
  rw [show isSz (TK.mk 29 s ws).kd (lowT (TK.mk 29 s ws).s) = false by show isSz 29 (lowT s) = false; rw [HL.out.2.1]; exact HL.out.2.2]
  have HA1 := Lib.hid (HA.out.later hb1)
  have HB1 := Lib.hid (HB2.out.trans (hb1.mono HB2.out.size))
  clear hb1 t0 t1 t2 t3 t4 t5 t6 tf HA HB2
  obtain ⟨t0, t1, t2, t3, t4, t5, t6, tf⟩ := HA1.out
  dsimp only at t1 t5 t6
  go_wp2_with fail
  refine (HE.out.low (HB.out.trans (HB1.out.mono hbs)) s HL.out.1).mono ?_
  rintro e w2 ⟨rfl, hb2⟩
  rw [HL.out.2.1]
  have HA2 := Lib.hid (HA1.out.later hb2)
  have HB2 := Lib.hid (HB1.out.trans (hb2.mono HB1.out.size))
  clear hb2 t0 t1 t2 t3 t4 t5 t6 tf HA1 HB1
  obtain ⟨t0, t1, t2, t3, t4, t5, t6, tf⟩ := HA2.out
  dsimp only at t1 t5 t6
  have hs2 := HB2.out.size
  have HO2 := Lib.hid (own_later HO.out HB2.out)
  have HBB := Lib.hid (HB.out.trans (HB2.out.mono hbs))
  clear HO HB
  go_wp2_with fail
  exact HQ.out _ _ ⟨rfl, rfl⟩ rfl HBB.out

set_option maxHeartbeats 4000000 in
set_option maxRecDepth 100000 in
theorem u_other_wp {d : Code} (hcode : Tryz.f17.body.bind (fb 1) = some (.block 1 d)) (Q : Exit → Act → World → Prop) (a : Act) (W w0 : World) (p : Value) (T capT n cap k : Nat) (L l : List TK) (a5 : Option Addr) (c5 : Nat) (s lw : ByteArray) (ws kd : Int)
    (hE : Env1 w0 T capT L) (ha : Ent a W w0 p T n cap k l a5 c5) (hn : n = L.length) (hk : k < n) (hkt : L[k]? = some ⟨kd, s, ws⟩) (hs : s.size ≤ 1048576) (hL : lowT s = lw) (hz : isSz kd lw = false) (k1 : (kd == 29) = false) (k2 : (kd == 30) = false)
    (hQ : ∀ a' W', Fr a' → a'.tmps[4]? = some (.slice (some ⟨T, 0, none⟩) n cap) → Below w0.heap.size w0 W' → Q .ret a' W') : Code.wp Tryz.prog (.block 1 d) Q a W := by
  have key : ∀ {D : Code}, Tryz.f17.body.bind (fb 1) = some (.block 1 D) → Code.wp Tryz.prog (.block 1 D) Q a W → Code.wp Tryz.prog (.block 1 d) Q a W := fun e h => by
    rw [e] at hcode
    cases hcode
    exact h
  refine key rfl ?_
  clear key hcode
  obtain ⟨hfr, e0, e1, e5, e6, hown, hbel⟩ := ha
  obtain ⟨xs, rfl, hxs⟩ := hfr.lit
  have x0 := hxs 0 _ (by omega) e0
  have x1 := hxs 1 _ (by omega) e1
  have x5 := hxs 5 _ (by omega) e5
  have x6 := hxs 6 _ (by omega) e6
  clear hxs e0 e1 e5 e6 hfr
  simp only [fr, x0, x1, x5, x6]
  clear x0 x1 x5 x6
  have HQ := Lib.hid hQ
  have HE := Lib.hid hE
  have HO := Lib.hid hown
  have HB := Lib.hid hbel
  have HL := Lib.hid (And.intro hs (And.intro hL hz))
  have HN := Lib.hid hn
  obtain ⟨hkl, hke⟩ := List.getElem?_eq_some_iff.1 hkt
  obtain ⟨p0, p1, p2, p3, p4, p5, p6⟩ := (hE.row.below hbel hE.row.lt).cells k hkl
  rw [hke] at p1 p5 p6
  dsimp only at p1 p5 p6
  have hkn : (k : Int) < (n : Int) := by omega
  have hbs := hbel.size
  have hTl := hE.row.lt
  clear hQ hE hown hbel hL hz hs hn hke hkl hkt
  go_upto_region 6 with fail
  obtain ⟨W2, eW⟩ : ∃ W2, W2 = W.alloc (.cells #[.pointer none, .string s, .int .i32 0, .int .u32 0, .int .u16 0, .int .u8 kd, .int .u8 ws] 31) := ⟨_, rfl⟩
  have hA : Box W2 W.heap.size ⟨kd, s, ws⟩ := by rw [eW]; exact Box.made W ⟨kd, s, ws⟩
  have hB2 : Below W.heap.size W W2 := by rw [eW]; exact (Below.refl _ _).alloc (Nat.le_refl _) _
  rw [← eW]
  clear eW p0 p1 p2 p3 p4 p5 p6
  have HA := Lib.hid hA
  have HB2 := Lib.hid hB2
  obtain ⟨t0, t1, t2, t3, t4, t5, t6, tf⟩ := hA
  dsimp only at t1 t5 t6
  clear hB2
  go_wp2_with fail
  refine (fontsize_uni ⟨kd, s, ws⟩ W2 HL.out.1 (HE.out.un.below (HB.out.trans (HB2.out.mono hbs))) (HE.out.kw.below (HB.out.trans (HB2.out.mono hbs)))).mono ?_
  rintro e w1 ⟨rfl, hb1⟩
  rw [show isSz (TK.mk kd s ws).kd (lowT (TK.mk kd s ws).s) = false by show isSz kd (lowT s) = false; rw [HL.out.2.1]; exact HL.out.2.2]
  have HA1 := Lib.hid (HA.out.later hb1)
  have HB1 := Lib.hid (HB2.out.trans (hb1.mono HB2.out.size))
  clear hb1 t0 t1 t2 t3 t4 t5 t6 tf HA HB2
  obtain ⟨t0, t1, t2, t3, t4, t5, t6, tf⟩ := HA1.out
  dsimp only at t1 t5 t6
  go_wp2_with fail
  exact HQ.out _ _ ⟨rfl, rfl⟩ rfl (HB.out.trans (HB1.out.mono hbs))

set_option maxHeartbeats 4000000 in
set_option maxRecDepth 100000 in
theorem u_oblique_wp {d : Code} (hcode : Tryz.f17.body.bind (fb 1) = some (.block 1 d)) (Q : Exit → Act → World → Prop) (a : Act) (W w0 : World) (p : Value) (T capT n cap k : Nat) (L l : List TK) (a5 : Option Addr) (c5 : Nat) (s lw : ByteArray) (ws : Int)
    (hE : Env1 w0 T capT L) (ha : Ent a W w0 p T n cap k l a5 c5) (hn : n = L.length) (_ : k < n) (hkt : L[k]? = some ⟨29, s, ws⟩) (hs : s.size ≤ 1048576) (hL : lowT s = lw) (hz : isSz 29 lw = false) (hl : l.length ≤ 10000) (hx : lw.toList = [111, 98, 108, 105, 113, 117, 101]) (hkb : k ≤ 100000) (nt : TK) (ln : ByteArray) (hnt : L[k + 1]? = some nt) (hal : nt.kd = 26 → Low nt.s ln ∧ noAngle ln)
    (hQ : ∀ a' W' a5' c5', Ent a' W' w0 p T n cap k (l ++ [⟨29, s, ws⟩]) a5' c5' → Q .normal a' W') : Code.wp Tryz.prog (.block 1 d) Q a W := by
  have key : ∀ {D : Code}, Tryz.f17.body.bind (fb 1) = some (.block 1 D) → Code.wp Tryz.prog (.block 1 D) Q a W → Code.wp Tryz.prog (.block 1 d) Q a W := fun e h => by
    rw [e] at hcode
    cases hcode
    exact h
  refine key rfl ?_
  clear key hcode
  obtain ⟨hfr, e0, e1, e5, e6, hown, hbel⟩ := ha
  obtain ⟨xs, rfl, hxs⟩ := hfr.lit
  have x0 := hxs 0 _ (by omega) e0
  have x1 := hxs 1 _ (by omega) e1
  have x5 := hxs 5 _ (by omega) e5
  have x6 := hxs 6 _ (by omega) e6
  clear hxs e0 e1 e5 e6 hfr
  simp only [fr, x0, x1, x5, x6]
  clear x0 x1 x5 x6
  have HQ := Lib.hid hQ
  have HE := Lib.hid hE
  have HO := Lib.hid hown
  have HB := Lib.hid hbel
  have HL := Lib.hid (And.intro hs (And.intro hL hz))
  have HN := Lib.hid hn
  have hk2 : k + 1 < n := by obtain ⟨h, _⟩ := List.getElem?_eq_some_iff.1 hnt; omega
  have HNT := Lib.hid hnt
  clear hnt
  obtain ⟨hkl, hke⟩ := List.getElem?_eq_some_iff.1 hkt
  obtain ⟨p0, p1, p2, p3, p4, p5, p6⟩ := (hE.row.below hbel hE.row.lt).cells k hkl
  rw [hke] at p1 p5 p6
  dsimp only at p1 p5 p6
  have hkn : (k : Int) < (n : Int) := by omega
  have hbs := hbel.size
  have hTl := hE.row.lt
  clear hQ hE hown hbel hL hz hs hn hke hkl hkt
  go_upto_region 6 with fail
  obtain ⟨W2, eW⟩ : ∃ W2, W2 = W.alloc (.cells #[.pointer none, .string s, .int .i32 0, .int .u32 0, .int .u16 0, .int .u8 29, .int .u8 ws] 31) := ⟨_, rfl⟩
  have hA : Box W2 W.heap.size ⟨29, s, ws⟩ := by rw [eW]; exact Box.made W ⟨29, s, ws⟩
  have hB2 : Below W.heap.size W W2 := by rw [eW]; exact (Below.refl _ _).alloc (Nat.le_refl _) _
  rw [← eW]
  clear eW p0 p1 p2 p3 p4 p5 p6
  have HA := Lib.hid hA
  have HB2 := Lib.hid hB2
  obtain ⟨t0, t1, t2, t3, t4, t5, t6, tf⟩ := hA
  dsimp only at t1 t5 t6
  clear hB2
  go_wp2_with fail
  refine (fontsize_uni ⟨29, s, ws⟩ W2 HL.out.1 (HE.out.un.below (HB.out.trans (HB2.out.mono hbs))) (HE.out.kw.below (HB.out.trans (HB2.out.mono hbs)))).mono ?_
  rintro e w1 ⟨rfl, hb1⟩
  rw [show isSz (TK.mk 29 s ws).kd (lowT (TK.mk 29 s ws).s) = false by show isSz 29 (lowT s) = false; rw [HL.out.2.1]; exact HL.out.2.2]
  have HA1 := Lib.hid (HA.out.later hb1)
  have HB1 := Lib.hid (HB2.out.trans (hb1.mono HB2.out.size))
  clear hb1 t0 t1 t2 t3 t4 t5 t6 tf HA HB2
  obtain ⟨t0, t1, t2, t3, t4, t5, t6, tf⟩ := HA1.out
  dsimp only at t1 t5 t6
  go_wp2_with fail
  refine (HE.out.low (HB.out.trans (HB1.out.mono hbs)) s HL.out.1).mono ?_
  rintro e w2 ⟨rfl, hb2⟩
  rw [HL.out.2.1]
  have HA2 := Lib.hid (HA1.out.later hb2)
  have HB2 := Lib.hid (HB1.out.trans (hb2.mono HB1.out.size))
  clear hb2 t0 t1 t2 t3 t4 t5 t6 tf HA1 HB1
  obtain ⟨t0, t1, t2, t3, t4, t5, t6, tf⟩ := HA2.out
  dsimp only at t1 t5 t6
  have hs2 := HB2.out.size
  have HO2 := Lib.hid (own_later HO.out HB2.out)
  have HBB := Lib.hid (HB.out.trans (HB2.out.mono hbs))
  clear HO HB
  obtain ⟨hql, hqe⟩ := List.getElem?_eq_some_iff.1 HNT.out
  obtain ⟨q0, q1, q2, q3, q4, q5, q6⟩ := (HE.out.row.below HBB.out hTl).cells (k + 1) hql
  rw [hqe] at q1 q5 q6
  have hk1 : (k : Int) + 1 < (n : Int) := by omega
  have hkb1 : (k : Int) ≤ 100000 := by omega
  have ea : (k + 1) * 7 = k * 7 + 7 := by omega
  have HAL := Lib.hid (fun w => angle_any nt ln hal w)
  clear hqe hql hal ea
  go_wp2_with fail
  refine (HAL.out _).mono ?_
  rintro e w3 ⟨rfl, hb3⟩
  have HA3 := Lib.hid (HA2.out.later hb3)
  have HO3 := Lib.hid (own_later HO2.out hb3)
  have HB3 := Lib.hid (HBB.out.trans (hb3.mono HBB.out.size))
  have hs3 := HB3.out.size
  clear hb3 t0 t1 t2 t3 t4 t5 t6 tf HA2 q0 q1 q2 q3 q4 q5 q6
  obtain ⟨t0, t1, t2, t3, t4, t5, t6, tf⟩ := HA3.out
  dsimp only at t1 t5 t6
  go_wp2_with (first
    | (refine wpList_append_tok w3 rfl (.tmp 84) (.tmp 86) rfl w0.heap.size (.slice a5 l.length c5) l ⟨29, s, ws⟩ rfl HO3.out rfl (by omega) (by omega) ?_
       intro a' c' w9 hown9 hgr9
       have HO9 := Lib.hid hown9
       have HG9 := Lib.hid hgr9
       clear hown9 hgr9)
    | fail)
  have el : (l ++ [(⟨29, s, ws⟩ : TK)]).length = l.length + 1 := by rw [List.length_append]; rfl
  refine HQ.out _ w9 a' c' ⟨⟨rfl, rfl⟩, rfl, rfl, by rw [el]; rfl, rfl, ?_, ?_⟩
  · have h := HO9.out
    rw [el] at h ⊢
    exact h
  · exact HB3.out.trans (below_grown (w := w3) ((Below.refl _ _).alloc (by omega) _) HG9.out HO3.out (by omega))
end Go.Proofs.YtoeahdefgblmoaaGreatDoor

namespace Go.Proofs.YtoeahdefgblmoaaGreatDoor
open Go.RowKit Go.Deep Go.PlainAid Go.Maps Go.Sort

set_option maxHeartbeats 4000000 in
set_option maxRecDepth 100000 in
theorem u_number_wp {d : Code} (hcode : Tryz.f17.body.bind (fb 1) = some (.block 1 d)) (Q : Exit → Act → World → Prop) (a : Act) (W w0 : World) (p : Value) (T capT n cap k : Nat) (L l : List TK) (a5 : Option Addr) (c5 : Nat) (s lw : ByteArray) (ws : Int)
    (hE : Env1 w0 T capT L) (ha : Ent a W w0 p T n cap k l a5 c5) (hn : n = L.length) (hk : k < n) (hkt : L[k]? = some ⟨30, s, ws⟩) (hs : s.size ≤ 1048576) (hL : lowT s = lw) (hz : isSz 30 lw = false) (hl : l.length ≤ 10000) 
    (hN : ∀ a' W' a5' c5', Ent a' W' w0 p T n cap k (l ++ [⟨30, s, ws⟩]) a5' c5' → Q .normal a' W') (hQ : ∀ a' W', Fr a' → a'.tmps[4]? = some (.slice (some ⟨T, 0, none⟩) n cap) → Below w0.heap.size w0 W' → Q .ret a' W') : Code.wp Tryz.prog (.block 1 d) Q a W := by
  have key : ∀ {D : Code}, Tryz.f17.body.bind (fb 1) = some (.block 1 D) → Code.wp Tryz.prog (.block 1 D) Q a W → Code.wp Tryz.prog (.block 1 d) Q a W := fun e h => by
    rw [e] at hcode
    cases hcode
    exact h
  refine key rfl ?_
  clear key hcode
  obtain ⟨hfr, e0, e1, e5, e6, hown, hbel⟩ := ha
  obtain ⟨xs, rfl, hxs⟩ := hfr.lit
  have x0 := hxs 0 _ (by omega) e0
  have x1 := hxs 1 _ (by omega) e1
  have x5 := hxs 5 _ (by omega) e5
  have x6 := hxs 6 _ (by omega) e6
  clear hxs e0 e1 e5 e6 hfr
  simp only [fr, x0, x1, x5, x6]
  clear x0 x1 x5 x6
  have HQ := Lib.hid hQ
  have HE := Lib.hid hE
  have HO := Lib.hid hown
  have HB := Lib.hid hbel
  have HL := Lib.hid (And.intro hs (And.intro hL hz))
  have HN := Lib.hid hn
  have HNN := Lib.hid hN
  clear hN
  obtain ⟨hkl, hke⟩ := List.getElem?_eq_some_iff.1 hkt
  obtain ⟨p0, p1, p2, p3, p4, p5, p6⟩ := (hE.row.below hbel hE.row.lt).cells k hkl
  rw [hke] at p1 p5 p6
  dsimp only at p1 p5 p6
  have hkn : (k : Int) < (n : Int) := by omega
  have hbs := hbel.size
  have hTl := hE.row.lt
  clear hQ hE hown hbel hL hz hs hn hke hkl hkt
  go_upto_region 6 with fail
  obtain ⟨W2, eW⟩ : ∃ W2, W2 = W.alloc (.cells #[.pointer none, .string s, .int .i32 0, .int .u32 0, .int .u16 0, .int .u8 30, .int .u8 ws] 31) := ⟨_, rfl⟩
  have hA : Box W2 W.heap.size ⟨30, s, ws⟩ := by rw [eW]; exact Box.made W ⟨30, s, ws⟩
  have hB2 : Below W.heap.size W W2 := by rw [eW]; exact (Below.refl _ _).alloc (Nat.le_refl _) _
  rw [← eW]
  clear eW p0 p1 p2 p3 p4 p5 p6
  have HA := Lib.hid hA
  have HB2 := Lib.hid hB2
  obtain ⟨t0, t1, t2, t3, t4, t5, t6, tf⟩ := hA
  dsimp only at t1 t5 t6
  clear hB2
  go_wp2_with fail
  refine (fontsize_uni ⟨30, s, ws⟩ W2 HL.out.1 (HE.out.un.below (HB.out.trans (HB2.out.mono hbs))) (HE.out.kw.below (HB.out.trans (HB2.out.mono hbs)))).mono ?_
  rintro e w1 ⟨rfl, hb1⟩
  rw [show isSz (TK.mk 30 s ws).kd (lowT (TK.mk 30 s ws).s) = false by show isSz 30 (lowT s) = false; rw [HL.out.2.1]; exact HL.out.2.2]
  have HA1 := Lib.hid (HA.out.later hb1)
  have HB1 := Lib.hid (HB2.out.trans (hb1.mono HB2.out.size))
  clear hb1 t0 t1 t2 t3 t4 t5 t6 tf HA HB2
  obtain ⟨t0, t1, t2, t3, t4, t5, t6, tf⟩ := HA1.out
  dsimp only at t1 t5 t6
  go_wp2_with fail
  refine (HE.out.float (HB.out.trans (HB1.out.mono hbs)) s HL.out.1).mono ?_
  rintro e w2 ⟨v, rfl, ev, hb2⟩
  have HA2 := Lib.hid (HA1.out.later hb2)
  have HB2 := Lib.hid (HB1.out.trans (hb2.mono HB1.out.size))
  clear hb2 t0 t1 t2 t3 t4 t5 t6 tf HA1 HB1
  obtain ⟨t0, t1, t2, t3, t4, t5, t6, tf⟩ := HA2.out
  dsimp only at t1 t5 t6
  have hs2 := HB2.out.size
  have HO2 := Lib.hid (own_later HO.out HB2.out)
  have HBB := Lib.hid (HB.out.trans (HB2.out.mono hbs))
  clear HO HB
  rcases ev with ⟨x, rfl⟩ | ⟨x, ty, y, rfl⟩
  · cases hlo : (FloatKind.f64.format.order x 4607182418800017408 == some .lt)
    · cases hhi : (FloatKind.f64.format.order x 4652007308841189376 == some .gt)
      · go_wp2_with (first
          | (refine wpList_append_tok w2 rfl (.tmp 107) (.tmp 109) rfl w0.heap.size (.slice a5 l.length c5) l ⟨30, s, ws⟩ rfl HO2.out rfl (by omega) (by omega) ?_
             intro a' c' w9 hown9 hgr9
             have HO9 := Lib.hid hown9
             have HG9 := Lib.hid hgr9
             clear hown9 hgr9)
          | fail)
        have el : (l ++ [(⟨30, s, ws⟩ : TK)]).length = l.length + 1 := by rw [List.length_append]; rfl
        refine HNN.out _ w9 a' c' ⟨⟨rfl, rfl⟩, rfl, rfl, by rw [el]; rfl, rfl, ?_, ?_⟩
        · have h := HO9.out
          rw [el] at h ⊢
          exact h
        · exact HBB.out.trans (below_grown (w := w2) ((Below.refl _ _).alloc (by omega) _) HG9.out HO2.out (by omega))
      · go_wp2_with fail
        exact HQ.out _ _ ⟨rfl, rfl⟩ rfl HBB.out
    · go_wp2_with fail
      exact HQ.out _ _ ⟨rfl, rfl⟩ rfl HBB.out
  · go_wp2_with fail
    exact HQ.out _ _ ⟨rfl, rfl⟩ rfl HBB.out
end Go.Proofs.YtoeahdefgblmoaaGreatDoor
