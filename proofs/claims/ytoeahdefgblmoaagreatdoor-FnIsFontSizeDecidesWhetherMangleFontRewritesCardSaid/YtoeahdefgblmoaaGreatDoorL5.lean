/-
  One word of mangleFont's first loop that stays, of any spelling.
-/
import Derived.Test.YtoeahdefgblmoaaGreatDoorL4
import Derived.Test.YtoeahdefgblmoaaGreatDoorL1
namespace Go.Proofs.YtoeahdefgblmoaaGreatDoor
open Go.RowKit Go.Deep Go.PlainAid Go.Maps Go.Sort

/-- What stands at the call of mangleFont. -/
structure Env1 (w0 : World) (T capT : Nat) (L : List TK) : Prop where
  row : RowAt w0 T capT L
  kw : MapAt w0 0 KW
  un : Uni w0
  pf : PF w0
  e3 : ∃ u v, w0.cell? ⟨3, 0, none⟩ = some (.iface u v)
  e4 : ∃ u v, w0.cell? ⟨4, 0, none⟩ = some (.iface u v)
theorem Env1.low {w0 W : World} {T capT : Nat} {L : List TK} (h : Env1 w0 T capT L) (hb : Below w0.heap.size w0 W) (s : ByteArray) (hs : s.size ≤ 1048576) : Calls Tryz.prog 19 #[.string s] W fun e w' => e = .returned (.string (lowT s)) ∧ Below W.heap.size W w' := low_uni s W hs (h.un.below hb)
theorem Env1.float {w0 W : World} {T capT : Nat} {L : List TK} (h : Env1 w0 T capT L) (hb : Below w0.heap.size w0 W) (s : ByteArray) (hs : s.size ≤ 1048576) : Calls Tryz.prog 22 #[.string s, .int .i64 64] W (GivesB isFW W) := by
  obtain ⟨u3, v3, c3⟩ := h.e3
  obtain ⟨u4, v4, c4⟩ := h.e4
  exact parse_any s W hs (h.pf.below hb) ⟨u3, v3, cell_later hb c3⟩ ⟨u4, v4, cell_later hb c4⟩

set_option maxHeartbeats 4000000 in
set_option maxRecDepth 100000 in
theorem u_italic_wp {d : Code} (hcode : Tryz.f17.body.bind (fb 1) = some (.block 1 d)) (Q : Exit → Act → World → Prop) (a : Act) (W w0 : World) (p : Value) (T capT n cap k : Nat) (L l : List TK) (a5 : Option Addr) (c5 : Nat) (s lw : ByteArray) (ws : Int)
    (hE : Env1 w0 T capT L) (ha : Ent a W w0 p T n cap k l a5 c5) (hn : n = L.length) (hk : k < n) (hkt : L[k]? = some ⟨29, s, ws⟩) (hs : s.size ≤ 1048576) (hL : lowT s = lw) (hz : isSz 29 lw = false) (hl : l.length ≤ 10000) (hx : lw.toList = [105, 116, 97, 108, 105, 99])
    (hQ : ∀ a' W' a5' c5', Ent a' W' w0 p T n cap k (l ++ [⟨29, s, ws⟩]) a5' c5' → Q .normal a' W') : Code.wp Tryz.prog (.block 1 d) Q a W := by
  have key : ∀ {D : Code}, Tryz.f17.body.bind (fb 1) = some (.block 1 D) → Code.wp Tryz.prog (.block 1 D) Q a W → Code.wp Tryz.prog (.block 1 d) Q a W := fun e h => by
    rw [e] at hcode
    cases hcode
    exact h
  refine key rfl ?_
  clear key hcode
  obtain ⟨hfr, e0, e1, e5, e6, hown, hbel⟩ := ha
  obtain ⟨xs, rfl, hxs⟩ := hfr.lit
  have x0 := hxs 0 _ (by omega) e0
  have x1 := hxs 1 _ (by omega) e1
  have x5 := hxs 5 _ (by omega) e5
  have x6 := hxs 6 _ (by omega) e6
  clear hxs e0 e1 e5 e6 hfr
  simp only [fr, x0, x1, x5, x6]
  clear x0 x1 x5 x6
  have HQ := Lib.hid hQ
  have HE := Lib.hid hE
  have HO := Lib.hid hown
  have HB := Lib.hid hbel
  have HL := Lib.hid (And.intro hs (And.intro hL hz))
  have HN := Lib.hid hn
  obtain ⟨hkl, hke⟩ := List.getElem?_eq_some_iff.1 hkt
  obtain ⟨p0, p1, p2, p3, p4, p5, p6⟩ := (hE.row.below hbel hE.row.lt).cells k hkl
  rw [hke] at p1 p5 p6
  dsimp only at p1 p5 p6
  have hkn : (k : Int) < (n : Int) := by omega
  have hbs := hbel.size
  have hTl := hE.row.lt
  clear hQ hE hown hbel hL hz hs hn hke hkl hkt
  go_upto_region 6 with fail
  obtain ⟨W2, eW⟩ : ∃ W2, W2 = W.alloc (.cells #[.pointer none, .string s, .int .i32 0, .int .u32 0, .int .u16 0, .int .u8 29, .int .u8 ws] 31) := ⟨_, rfl⟩
  have hA : Box W2 W.heap.size ⟨29, s, ws⟩ := by rw [eW]; exact Box.made W ⟨29, s, ws⟩
  have hB2 : Below W.heap.size W W2 := by rw [eW]; exact (Below.refl _ _).alloc (Nat.le_refl _) _
  rw [← eW]
  clear eW p0 p1 p2 p3 p4 p5 p6
  have HA := Lib.hid hA
  have HB2 := Lib.hid hB2
  obtain ⟨t0, t1, t2, t3, t4, t5, t6, tf⟩ := hA
  dsimp only at t1 t5 t6
  clear hB2
  go_wp2_with fail
  refine (fontsize_uni ⟨29, s, ws⟩ W2 HL.out.1 (HE.out.un.below (HB.out.trans (HB2.out.mono hbs))) (HE.out.kw.below (HB.out.trans (HB2.out.mono hbs)))).mono ?_
  rintro e w1 ⟨rfl, hb1⟩
  rw [show isSz (TK.mk 29 s ws).kd (lowT (TK.mk 29 s ws).s) = false by show isSz 29 (lowT s) = false; rw [HL.out.2.1]; exact HL.out.2.2]
  have HA1 := Lib.hid (HA.out.later hb1)
  have HB1 := Lib.hid (HB2.out.trans (hb1.mono HB2.out.size))
  clear hb1 t0 t1 t2 t3 t4 t5 t6 tf HA HB2
  obtain ⟨t0, t1, t2, t3, t4, t5, t6, tf⟩ := HA1.out
  dsimp only at t1 t5 t6
  go_wp2_with fail
  refine (HE.out.low (HB.out.trans (HB1.out.mono hbs)) s HL.out.1).mono ?_
  rintro e w2 ⟨rfl, hb2⟩
  rw [HL.out.2.1]
  have HA2 := Lib.hid (HA1.out.later hb2)
  have HB2 := Lib.hid (HB1.out.trans (hb2.mono HB1.out.size))
  clear hb2 t0 t1 t2 t3 t4 t5 t6 tf HA1 HB1
  obtain ⟨t0, t1, t2, t3, t4, t5, t6, tf⟩ := HA2.out
  dsimp only at t1 t5 t6
  have hs2 := HB2.out.size
  have HO2 := Lib.hid (own_later HO.out HB2.out)
  have HBB := Lib.hid (HB.out.trans (HB2.out.mono hbs))
  clear HO HB
  go_wp2_with (first
    | (refine wpList_append_tok w2 rfl (.tmp 84) (.tmp 86) rfl w0.heap.size (.slice a5 l.length c5) l ⟨29, s, ws⟩ rfl HO2.out rfl (by omega) (by omega) ?_
       intro a' c' w9 hown9 hgr9
       have HO9 := Lib.hid hown9
       have HG9 := Lib.hid hgr9
       clear hown9 hgr9)
    | fail)
  have el : (l ++ [(⟨29, s, ws⟩ : TK)]).length = l.length + 1 := by rw [List.length_append]; rfl
  refine HQ.out _ w9 a' c' ⟨⟨rfl, rfl⟩, rfl, rfl, by rw [el]; rfl, rfl, ?_, ?_⟩
  · have h := HO9.out
    rw [el] at h ⊢
    exact h
  · exact HBB.out.trans (below_grown (w := w2) ((Below.refl _ _).alloc (by omega) _) HG9.out HO2.out (by omega))

set_option maxHeartbeats 4000000 in
set_option maxRecDepth 100000 in
theorem u_small_caps_wp {d : Code} (hcode : Tryz.f17.body.bind (fb 1) = some (.block 1 d)) (Q : Exit → Act → World → Prop) (a : Act) (W w0 : World) (p : Value) (T capT n cap k : Nat) (L l : List TK) (a5 : Option Addr) (c5 : Nat) (s lw : ByteArray) (ws : Int)
    (hE : Env1 w0 T capT L) (ha : Ent a W w0 p T n cap k l a5 c5) (hn : n = L.length) (hk : k < n) (hkt : L[k]? = some ⟨29, s, ws⟩) (hs : s.size ≤ 1048576) (hL : lowT s = lw) (hz : isSz 29 lw = false) (hl : l.length ≤ 10000) (hx : lw.toList = [115, 109, 97, 108, 108, 45, 99, 97, 112, 115])
    (hQ : ∀ a' W' a5' c5', Ent a' W' w0 p T n cap k (l ++ [⟨29, s, ws⟩]) a5' c5' → Q .normal a' W') : Code.wp Tryz.prog (.block 1 d) Q a W := by
  have key : ∀ {D : Code}, Tryz.f17.body.bind (fb 1) = some (.block 1 D) → Code.wp Tryz.prog (.block 1 D) Q a W → Code.wp Tryz.prog (.block 1 d) Q a W := fun e h => by
    rw [e] at hcode
    cases hcode
    exact h
  refine key rfl ?_
  clear key hcode
  obtain ⟨hfr, e0, e1, e5, e6, hown, hbel⟩ := ha
  obtain ⟨xs, rfl, hxs⟩ := hfr.lit
  have x0 := hxs 0 _ (by omega) e0
  have x1 := hxs 1 _ (by omega) e1
  have x5 := hxs 5 _ (by omega) e5
  have x6 := hxs 6 _ (by omega) e6
  clear hxs e0 e1 e5 e6 hfr
  simp only [fr, x0, x1, x5, x6]
  clear x0 x1 x5 x6
  have HQ := Lib.hid hQ
  have HE := Lib.hid hE
  have HO := Lib.hid hown
  have HB := Lib.hid hbel
  have HL := Lib.hid (And.intro hs (And.intro hL hz))
  have HN := Lib.hid hn
  obtain ⟨hkl, hke⟩ := List.getElem?_eq_some_iff.1 hkt
  obtain ⟨p0, p1, p2, p3, p4, p5, p6⟩ := (hE.row.below hbel hE.row.lt).cells k hkl
  rw [hke] at p1 p5 p6
  dsimp only at p1 p5 p6
  have hkn : (k : Int) < (n : Int) := by omega
  have hbs := hbel.size
  have hTl := hE.row.lt
  clear hQ hE hown hbel hL hz hs hn hke hkl hkt
  go_upto_region 6 with fail
  obtain ⟨W2, eW⟩ : ∃ W2, W2 = W.alloc (.cells #[.pointer none, .string s, .int .i32 0, .int .u32 0, .int .u16 0, .int .u8 29, .int .u8 ws] 31) := ⟨_, rfl⟩
  have hA : Box W2 W.heap.size ⟨29, s, ws⟩ := by rw [eW]; exact Box.made W ⟨29, s, ws⟩
  have hB2 : Below W.heap.size W W2 := by rw [eW]; exact (Below.refl _ _).alloc (Nat.le_refl _) _
  rw [← eW]
  clear eW p0 p1 p2 p3 p4 p5 p6
  have HA := Lib.hid hA
  have HB2 := Lib.hid hB2
  obtain ⟨t0, t1, t2, t3, t4, t5, t6, tf⟩ := hA
  dsimp only at t1 t5 t6
  clear hB2
  go_wp2_with fail
  refine (fontsize_uni ⟨29, s, ws⟩ W2 HL.out.1 (HE.out.un.below (HB.out.trans (HB2.out.mono hbs))) (HE.out.kw.below (HB.out.trans (HB2.out.mono hbs)))).mono ?_
  rintro e w1 ⟨rfl, hb1⟩
  rw [show isSz (TK.mk 29 s ws).kd (lowT (TK.mk 29 s ws).s) = false by show isSz 29 (lowT s) = false; rw [HL.out.2.1]; exact HL.out.2.2]
  have HA1 := Lib.hid (HA.out.later hb1)
  have HB1 := Lib.hid (HB2.out.trans (hb1.mono HB2.out.size))
  clear hb1 t0 t1 t2 t3 t4 t5 t6 tf HA HB2
  obtain ⟨t0, t1, t2, t3, t4, t5, t6, tf⟩ := HA1.out
  dsimp only at t1 t5 t6
  go_wp2_with fail
  refine (HE.out.low (HB.out.trans (HB1.out.mono hbs)) s HL.out.1).mono ?_
  rintro e w2 ⟨rfl, hb2⟩
  rw [HL.out.2.1]
  have HA2 := Lib.hid (HA1.out.later hb2)
  have HB2 := Lib.hid (HB1.out.trans (hb2.mono HB1.out.size))
  clear hb2 t0 t1 t2 t3 t4 t5 t6 tf HA1 HB1
  obtain ⟨t0, t1, t2, t3, t4, t5, t6, tf⟩ := HA2.out
  dsimp only at t1 t5 t6
  have hs2 := HB2.out.size
  have HO2 := Lib.hid (own_later HO.out HB2.out)
  have HBB := Lib.hid (HB.out.trans (HB2.out.mono hbs))
  clear HO HB
  go_wp2_with (first
    | (refine wpList_append_tok w2 rfl (.tmp 84) (.tmp 86) rfl w0.heap.size (.slice a5 l.length c5) l ⟨29, s, ws⟩ rfl HO2.out rfl (by omega) (by omega) ?_
       intro a' c' w9 hown9 hgr9
       have HO9 := Lib.hid hown9
       have HG9 := Lib.hid hgr9
       clear hown9 hgr9)
    | fail)
  have el : (l ++ [(⟨29, s, ws⟩ : TK)]).length = l.length + 1 := by rw [List.length_append]; rfl
  refine HQ.out _ w9 a' c' ⟨⟨rfl, rfl⟩, rfl, rfl, by rw [el]; rfl, rfl, ?_, ?_⟩
  · have h := HO9.out
    rw [el] at h ⊢
    exact h
  · exact HBB.out.trans (below_grown (w := w2) ((Below.refl _ _).alloc (by omega) _) HG9.out HO2.out (by omega))

set_option maxHeartbeats 4000000 in
set_option maxRecDepth 100000 in
theorem u_ultra_condensed_wp {d : Code} (hcode : Tryz.f17.body.bind (fb 1) = some (.block 1 d)) (Q : Exit → Act → World → Prop) (a : Act) (W w0 : World) (p : Value) (T capT n cap k : Nat) (L l : List TK) (a5 : Option Addr) (c5 : Nat) (s lw : ByteArray) (ws : Int)
    (hE : Env1 w0 T capT L) (ha : Ent a W w0 p T n cap k l a5 c5) (hn : n = L.length) (hk : k < n) (hkt : L[k]? = some ⟨29, s, ws⟩) (hs : s.size ≤ 1048576) (hL : lowT s = lw) (hz : isSz 29 lw = false) (hl : l.length ≤ 10000) (hx : lw.toList = [117, 108, 116, 114, 97, 45, 99, 111, 110, 100, 101, 110, 115, 101, 100])
    (hQ : ∀ a' W' a5' c5', Ent a' W' w0 p T n cap k (l ++ [⟨29, s, ws⟩]) a5' c5' → Q .normal a' W') : Code.wp Tryz.prog (.block 1 d) Q a W := by
  have key : ∀ {D : Code}, Tryz.f17.body.bind (fb 1) = some (.block 1 D) → Code.wp Tryz.prog (.block 1 D) Q a W → Code.wp Tryz.prog (.block 1 d) Q a W := fun e h => by
    rw [e] at hcode
    cases hcode
    exact h
  refine key rfl ?_
  clear key hcode
  obtain ⟨hfr, e0, e1, e5, e6, hown, hbel⟩ := ha
  obtain ⟨xs, rfl, hxs⟩ := hfr.lit
  have x0 := hxs 0 _ (by omega) e0
  have x1 := hxs 1 _ (by omega) e1
  have x5 := hxs 5 _ (by omega) e5
  have x6 := hxs 6 _ (by omega) e6
  clear hxs e0 e1 e5 e6 hfr
  simp only [fr, x0, x1, x5, x6]
  clear x0 x1 x5 x6
  have HQ := Lib.hid hQ
  have HE := Lib.hid hE
  have HO := Lib.hid hown
  have HB := Lib.hid hbel
  have HL := Lib.hid (And.intro hs (And.intro hL hz))
  have HN := Lib.hid hn
  obtain ⟨hkl, hke⟩ := List.getElem?_eq_some_iff.1 hkt
  obtain ⟨p0, p1, p2, p3, p4, p5, p6⟩ := (hE.row.below hbel hE.row.lt).cells k hkl
  rw [hke] at p1 p5 p6
  dsimp only at p1 p5 p6
  have hkn : (k : Int) < (n : Int) := by omega
  have hbs := hbel.size
  have hTl := hE.row.lt
  clear hQ hE hown hbel hL hz hs hn hke hkl hkt
  go_upto_region 6 with fail
  obtain ⟨W2, eW⟩ : ∃ W2, W2 = W.alloc (.cells #[.pointer none, .string s, .int .i32 0, .int .u32 0, .int .u16 0, .int .u8 29, .int .u8 ws] 31) := ⟨_, rfl⟩
  have hA : Box W2 W.heap.size ⟨29, s, ws⟩ := by rw [eW]; exact Box.made W ⟨29, s, ws⟩
  have hB2 : Below W.heap.size W W2 := by rw [eW]; exact (Below.refl _ _).alloc (Nat.le_refl _) _
  rw [← eW]
  clear eW p0 p1 p2 p3 p4 p5 p6
  have HA := Lib.hid hA
  have HB2 := Lib.hid hB2
  obtain ⟨t0, t1, t2, t3, t4, t5, t6, tf⟩ := hA
  dsimp only at t1 t5 t6
  clear hB2
  go_wp2_with fail
  refine (fontsize_uni ⟨29, s, ws⟩ W2 HL.out.1 (HE.out.un.below (HB.out.trans (HB2.out.mono hbs))) (HE.out.kw.below (HB.out.trans (HB2.out.mono hbs)))).mono ?_
  rintro e w1 ⟨rfl, hb1⟩
  rw [show isSz (TK.mk 29 s ws).kd (lowT (TK.mk 29 s ws).s) = false by show isSz 29 (lowT s) = false; rw [HL.out.2.1]; exact HL.out.2.2]
  have HA1 := Lib.hid (HA.out.later hb1)
  have HB1 := Lib.hid (HB2.out.trans (hb1.mono HB2.out.size))
  clear hb1 t0 t1 t2 t3 t4 t5 t6 tf HA HB2
  obtain ⟨t0, t1, t2, t3, t4, t5, t6, tf⟩ := HA1.out
  dsimp only at t1 t5 t6
  go_wp2_with fail
  refine (HE.out.low (HB.out.trans (HB1.out.mono hbs)) s HL.out.1).mono ?_
  rintro e w2 ⟨rfl, hb2⟩
  rw [HL.out.2.1]
  have HA2 := Lib.hid (HA1.out.later hb2)
  have HB2 := Lib.hid (HB1.out.trans (hb2.mono HB1.out.size))
  clear hb2 t0 t1 t2 t3 t4 t5 t6 tf HA1 HB1
  obtain ⟨t0, t1, t2, t3, t4, t5, t6, tf⟩ := HA2.out
  dsimp only at t1 t5 t6
  have hs2 := HB2.out.size
  have HO2 := Lib.hid (own_later HO.out HB2.out)
  have HBB := Lib.hid (HB.out.trans (HB2.out.mono hbs))
  clear HO HB
  go_wp2_with (first
    | (refine wpList_append_tok w2 rfl (.tmp 84) (.tmp 86) rfl w0.heap.size (.slice a5 l.length c5) l ⟨29, s, ws⟩ rfl HO2.out rfl (by omega) (by omega) ?_
       intro a' c' w9 hown9 hgr9
       have HO9 := Lib.hid hown9
       have HG9 := Lib.hid hgr9
       clear hown9 hgr9)
    | fail)
  have el : (l ++ [(⟨29, s, ws⟩ : TK)]).length = l.length + 1 := by rw [List.length_append]; rfl
  refine HQ.out _ w9 a' c' ⟨⟨rfl, rfl⟩, rfl, rfl, by rw [el]; rfl, rfl, ?_, ?_⟩
  · have h := HO9.out
    rw [el] at h ⊢
    exact h
  · exact HBB.out.trans (below_grown (w := w2) ((Below.refl _ _).alloc (by omega) _) HG9.out HO2.out (by omega))

set_option maxHeartbeats 4000000 in
set_option maxRecDepth 100000 in
theorem u_extra_condensed_wp {d : Code} (hcode : Tryz.f17.body.bind (fb 1) = some (.block 1 d)) (Q : Exit → Act → World → Prop) (a : Act) (W w0 : World) (p : Value) (T capT n cap k : Nat) (L l : List TK) (a5 : Option Addr) (c5 : Nat) (s lw : ByteArray) (ws : Int)
    (hE : Env1 w0 T capT L) (ha : Ent a W w0 p T n cap k l a5 c5) (hn : n = L.length) (hk : k < n) (hkt : L[k]? = some ⟨29, s, ws⟩) (hs : s.size ≤ 1048576) (hL : lowT s = lw) (hz : isSz 29 lw = false) (hl : l.length ≤ 10000) (hx : lw.toList = [101, 120, 116, 114, 97, 45, 99, 111, 110, 100, 101, 110, 115, 101, 100])
    (hQ : ∀ a' W' a5' c5', Ent a' W' w0 p T n cap k (l ++ [⟨29, s, ws⟩]) a5' c5' → Q .normal a' W') : Code.wp Tryz.prog (.block 1 d) Q a W := by
  have key : ∀ {D : Code}, Tryz.f17.body.bind (fb 1) = some (.block 1 D) → Code.wp Tryz.prog (.block 1 D) Q a W → Code.wp Tryz.prog (.block 1 d) Q a W := fun e h => by
    rw [e] at hcode
    cases hcode
    exact h
  refine key rfl ?_
  clear key hcode
  obtain ⟨hfr, e0, e1, e5, e6, hown, hbel⟩ := ha
  obtain ⟨xs, rfl, hxs⟩ := hfr.lit
  have x0 := hxs 0 _ (by omega) e0
  have x1 := hxs 1 _ (by omega) e1
  have x5 := hxs 5 _ (by omega) e5
  have x6 := hxs 6 _ (by omega) e6
  clear hxs e0 e1 e5 e6 hfr
  simp only [fr, x0, x1, x5, x6]
  clear x0 x1 x5 x6
  have HQ := Lib.hid hQ
  have HE := Lib.hid hE
  have HO := Lib.hid hown
  have HB := Lib.hid hbel
  have HL := Lib.hid (And.intro hs (And.intro hL hz))
  have HN := Lib.hid hn
  obtain ⟨hkl, hke⟩ := List.getElem?_eq_some_iff.1 hkt
  obtain ⟨p0, p1, p2, p3, p4, p5, p6⟩ := (hE.row.below hbel hE.row.lt).cells k hkl
  rw [hke] at p1 p5 p6
  dsimp only at p1 p5 p6
  have hkn : (k : Int) < (n : Int) := by omega
  have hbs := hbel.size
  have hTl := hE.row.lt
  clear hQ hE hown hbel hL hz hs hn hke hkl hkt
  go_upto_region 6 with fail
  obtain ⟨W2, eW⟩ : ∃ W2, W2 = W.alloc (.cells #[.pointer none, .string s, .int .i32 0, .int .u32 0, .int .u16 0, .int .u8 29, .int .u8 ws] 31) := ⟨_, rfl⟩
  have hA : Box W2 W.heap.size ⟨29, s, ws⟩ := by rw [eW]; exact Box.made W ⟨29, s, ws⟩
  have hB2 : Below W.heap.size W W2 := by rw [eW]; exact (Below.refl _ _).alloc (Nat.le_refl _) _
  rw [← eW]
  clear eW p0 p1 p2 p3 p4 p5 p6
  have HA := Lib.hid hA
  have HB2 := Lib.hid hB2
  obtain ⟨t0, t1, t2, t3, t4, t5, t6, tf⟩ := hA
  dsimp only at t1 t5 t6
  clear hB2
  go_wp2_with fail
  refine (fontsize_uni ⟨29, s, ws⟩ W2 HL.out.1 (HE.out.un.below (HB.out.trans (HB2.out.mono hbs))) (HE.out.kw.below (HB.out.trans (HB2.out.mono hbs)))).mono ?_
  rintro e w1 ⟨rfl, hb1⟩
  rw [show isSz (TK.mk 29 s ws).kd (lowT (TK.mk 29 s ws).s) = false by show isSz 29 (lowT s) = false; rw [HL.out.2.1]; exact HL.out.2.2]
  have HA1 := Lib.hid (HA.out.later hb1)
  have HB1 := Lib.hid (HB2.out.trans (hb1.mono HB2.out.size))
  clear hb1 t0 t1 t2 t3 t4 t5 t6 tf HA HB2
  obtain ⟨t0, t1, t2, t3, t4, t5, t6, tf⟩ := HA1.out
  dsimp only at t1 t5 t6
  go_wp2_with fail
  refine (HE.out.low (HB.out.trans (HB1.out.mono hbs)) s HL.out.1).mono ?_
  rintro e w2 ⟨rfl, hb2⟩
  rw [HL.out.2.1]
  have HA2 := Lib.hid (HA1.out.later hb2)
  have HB2 := Lib.hid (HB1.out.trans (hb2.mono HB1.out.size))
  clear hb2 t0 t1 t2 t3 t4 t5 t6 tf HA1 HB1
  obtain ⟨t0, t1, t2, t3, t4, t5, t6, tf⟩ := HA2.out
  dsimp only at t1 t5 t6
  have hs2 := HB2.out.size
  have HO2 := Lib.hid (own_later HO.out HB2.out)
  have HBB := Lib.hid (HB.out.trans (HB2.out.mono hbs))
  clear HO HB
  go_wp2_with (first
    | (refine wpList_append_tok w2 rfl (.tmp 84) (.tmp 86) rfl w0.heap.size (.slice a5 l.length c5) l ⟨29, s, ws⟩ rfl HO2.out rfl (by omega) (by omega) ?_
       intro a' c' w9 hown9 hgr9
       have HO9 := Lib.hid hown9
       have HG9 := Lib.hid hgr9
       clear hown9 hgr9)
    | fail)
  have el : (l ++ [(⟨29, s, ws⟩ : TK)]).length = l.length + 1 := by rw [List.length_append]; rfl
  refine HQ.out _ w9 a' c' ⟨⟨rfl, rfl⟩, rfl, rfl, by rw [el]; rfl, rfl, ?_, ?_⟩
  · have h := HO9.out
    rw [el] at h ⊢
    exact h
  · exact HBB.out.trans (below_grown (w := w2) ((Below.refl _ _).alloc (by omega) _) HG9.out HO2.out (by omega))

set_option maxHeartbeats 4000000 in
set_option maxRecDepth 100000 in
theorem u_condensed_wp {d : Code} (hcode : Tryz.f17.body.bind (fb 1) = some (.block 1 d)) (Q : Exit → Act → World → Prop) (a : Act) (W w0 : World) (p : Value) (T capT n cap k : Nat) (L l : List TK) (a5 : Option Addr) (c5 : Nat) (s lw : ByteArray) (ws : Int)
    (hE : Env1 w0 T capT L) (ha : Ent a W w0 p T n cap k l a5 c5) (hn : n = L.length) (hk : k < n) (hkt : L[k]? = some ⟨29, s, ws⟩) (hs : s.size ≤ 1048576) (hL : lowT s = lw) (hz : isSz 29 lw = false) (hl : l.length ≤ 10000) (hx : lw.toList = [99, 111, 110, 100, 101, 110, 115, 101, 100])
    (hQ : ∀ a' W' a5' c5', Ent a' W' w0 p T n cap k (l ++ [⟨29, s, ws⟩]) a5' c5' → Q .normal a' W') : Code.wp Tryz.prog (.block 1 d) Q a W := by
  have key : ∀ {D : Code}, Tryz.f17.body.bind (fb 1) = some (.block 1 D) → Code.wp Tryz.prog (.block 1 D) Q a W → Code.wp Tryz.prog (.block 1 d) Q a W := fun e h => by
    rw [e] at hcode
    cases hcode
    exact h
  refine key rfl ?_
  clear key hcode
  obtain ⟨hfr, e0, e1, e5, e6, hown, hbel⟩ := ha
  obtain ⟨xs, rfl, hxs⟩ := hfr.lit
  have x0 := hxs 0 _ (by omega) e0
  have x1 := hxs 1 _ (by omega) e1
  have x5 := hxs 5 _ (by omega) e5
  have x6 := hxs 6 _ (by omega) e6
  clear hxs e0 e1 e5 e6 hfr
  simp only [fr, x0, x1, x5, x6]
  clear x0 x1 x5 x6
  have HQ := Lib.hid hQ
  have HE := Lib.hid hE
  have HO := Lib.hid hown
  have HB := Lib.hid hbel
  have HL := Lib.hid (And.intro hs (And.intro hL hz))
  have HN := Lib.hid hn
  obtain ⟨hkl, hke⟩ := List.getElem?_eq_some_iff.1 hkt
  obtain ⟨p0, p1, p2, p3, p4, p5, p6⟩ := (hE.row.below hbel hE.row.lt).cells k hkl
  rw [hke] at p1 p5 p6
  dsimp only at p1 p5 p6
  have hkn : (k : Int) < (n : Int) := by omega
  have hbs := hbel.size
  have hTl := hE.row.lt
  clear hQ hE hown hbel hL hz hs hn hke hkl hkt
  go_upto_region 6 with fail
  obtain ⟨W2, eW⟩ : ∃ W2, W2 = W.alloc (.cells #[.pointer none, .string s, .int .i32 0, .int .u32 0, .int .u16 0, .int .u8 29, .int .u8 ws] 31) := ⟨_, rfl⟩
  have hA : Box W2 W.heap.size ⟨29, s, ws⟩ := by rw [eW]; exact Box.made W ⟨29, s, ws⟩
  have hB2 : Below W.heap.size W W2 := by rw [eW]; exact (Below.refl _ _).alloc (Nat.le_refl _) _
  rw [← eW]
  clear eW p0 p1 p2 p3 p4 p5 p6
  have HA := Lib.hid hA
  have HB2 := Lib.hid hB2
  obtain ⟨t0, t1, t2, t3, t4, t5, t6, tf⟩ := hA
  dsimp only at t1 t5 t6
  clear hB2
  go_wp2_with fail
  refine (fontsize_uni ⟨29, s, ws⟩ W2 HL.out.1 (HE.out.un.below (HB.out.trans (HB2.out.mono hbs))) (HE.out.kw.below (HB.out.trans (HB2.out.mono hbs)))).mono ?_
  rintro e w1 ⟨rfl, hb1⟩
  rw [show isSz (TK.mk 29 s ws).kd (lowT (TK.mk 29 s ws).s) = false by show isSz 29 (lowT s) = false; rw [HL.out.2.1]; exact HL.out.2.2]
  have HA1 := Lib.hid (HA.out.later hb1)
  have HB1 := Lib.hid (HB2.out.trans (hb1.mono HB2.out.size))
  clear hb1 t0 t1 t2 t3 t4 t5 t6 tf HA HB2
  obtain ⟨t0, t1, t2, t3, t4, t5, t6, tf⟩ := HA1.out
  dsimp only at t1 t5 t6
  go_wp2_with fail
  refine (HE.out.low (HB.out.trans (HB1.out.mono hbs)) s HL.out.1).mono ?_
  rintro e w2 ⟨rfl, hb2⟩
  rw [HL.out.2.1]
  have HA2 := Lib.hid (HA1.out.later hb2)
  have HB2 := Lib.hid (HB1.out.trans (hb2.mono HB1.out.size))
  clear hb2 t0 t1 t2 t3 t4 t5 t6 tf HA1 HB1
  obtain ⟨t0, t1, t2, t3, t4, t5, t6, tf⟩ := HA2.out
  dsimp only at t1 t5 t6
  have hs2 := HB2.out.size
  have HO2 := Lib.hid (own_later HO.out HB2.out)
  have HBB := Lib.hid (HB.out.trans (HB2.out.mono hbs))
  clear HO HB
  go_wp2_with (first
    | (refine wpList_append_tok w2 rfl (.tmp 84) (.tmp 86) rfl w0.heap.size (.slice a5 l.length c5) l ⟨29, s, ws⟩ rfl HO2.out rfl (by omega) (by omega) ?_
       intro a' c' w9 hown9 hgr9
       have HO9 := Lib.hid hown9
       have HG9 := Lib.hid hgr9
       clear hown9 hgr9)
    | fail)
  have el : (l ++ [(⟨29, s, ws⟩ : TK)]).length = l.length + 1 := by rw [List.length_append]; rfl
  refine HQ.out _ w9 a' c' ⟨⟨rfl, rfl⟩, rfl, rfl, by rw [el]; rfl, rfl, ?_, ?_⟩
  · have h := HO9.out
    rw [el] at h ⊢
    exact h
  · exact HBB.out.trans (below_grown (w := w2) ((Below.refl _ _).alloc (by omega) _) HG9.out HO2.out (by omega))

set_option maxHeartbeats 4000000 in
set_option maxRecDepth 100000 in
theorem u_semi_condensed_wp {d : Code} (hcode : Tryz.f17.body.bind (fb 1) = some (.block 1 d)) (Q : Exit → Act → World → Prop) (a : Act) (W w0 : World) (p : Value) (T capT n cap k : Nat) (L l : List TK) (a5 : Option Addr) (c5 : Nat) (s lw : ByteArray) (ws : Int)
    (hE : Env1 w0 T capT L) (ha : Ent a W w0 p T n cap k l a5 c5) (hn : n = L.length) (hk : k < n) (hkt : L[k]? = some ⟨29, s, ws⟩) (hs : s.size ≤ 1048576) (hL : lowT s = lw) (hz : isSz 29 lw = false) (hl : l.length ≤ 10000) (hx : lw.toList = [115, 101, 109, 105, 45, 99, 111, 110, 100, 101, 110, 115, 101, 100])
    (hQ : ∀ a' W' a5' c5', Ent a' W' w0 p T n cap k (l ++ [⟨29, s, ws⟩]) a5' c5' → Q .normal a' W') : Code.wp Tryz.prog (.block 1 d) Q a W := by
  have key : ∀ {D : Code}, Tryz.f17.body.bind (fb 1) = some (.block 1 D) → Code.wp Tryz.prog (.block 1 D) Q a W → Code.wp Tryz.prog (.block 1 d) Q a W := fun e h => by
    rw [e] at hcode
    cases hcode
    exact h
  refine key rfl ?_
  clear key hcode
  obtain ⟨hfr, e0, e1, e5, e6, hown, hbel⟩ := ha
  obtain ⟨xs, rfl, hxs⟩ := hfr.lit
  have x0 := hxs 0 _ (by omega) e0
  have x1 := hxs 1 _ (by omega) e1
  have x5 := hxs 5 _ (by omega) e5
  have x6 := hxs 6 _ (by omega) e6
  clear hxs e0 e1 e5 e6 hfr
  simp only [fr, x0, x1, x5, x6]
  clear x0 x1 x5 x6
  have HQ := Lib.hid hQ
  have HE := Lib.hid hE
  have HO := Lib.hid hown
  have HB := Lib.hid hbel
  have HL := Lib.hid (And.intro hs (And.intro hL hz))
  have HN := Lib.hid hn
  obtain ⟨hkl, hke⟩ := List.getElem?_eq_some_iff.1 hkt
  obtain ⟨p0, p1, p2, p3, p4, p5, p6⟩ := (hE.row.below hbel hE.row.lt).cells k hkl
  rw [hke] at p1 p5 p6
  dsimp only at p1 p5 p6
  have hkn : (k : Int) < (n : Int) := by omega
  have hbs := hbel.size
  have hTl := hE.row.lt
  clear hQ hE hown hbel hL hz hs hn hke hkl hkt
  go_upto_region 6 with fail
  obtain ⟨W2, eW⟩ : ∃ W2, W2 = W.alloc (.cells #[.pointer none, .string s, .int .i32 0, .int .u32 0, .int .u16 0, .int .u8 29, .int .u8 ws] 31) := ⟨_, rfl⟩
  have hA : Box W2 W.heap.size ⟨29, s, ws⟩ := by rw [eW]; exact Box.made W ⟨29, s, ws⟩
  have hB2 : Below W.heap.size W W2 := by rw [eW]; exact (Below.refl _ _).alloc (Nat.le_refl _) _
  rw [← eW]
  clear eW p0 p1 p2 p3 p4 p5 p6
  have HA := Lib.hid hA
  have HB2 := Lib.hid hB2
  obtain ⟨t0, t1, t2, t3, t4, t5, t6, tf⟩ := hA
  dsimp only at t1 t5 t6
  clear hB2
  go_wp2_with fail
  refine (fontsize_uni ⟨29, s, ws⟩ W2 HL.out.1 (HE.out.un.below (HB.out.trans (HB2.out.mono hbs))) (HE.out.kw.below (HB.out.trans (HB2.out.mono hbs)))).mono ?_
  rintro e w1 ⟨rfl, hb1⟩
  rw [show isSz (TK.mk 29 s ws).kd (lowT (TK.mk 29 s ws).s) = false by show isSz 29 (lowT s) = false; rw [HL.out.2.1]; exact HL.out.2.2]
  have HA1 := Lib.hid (HA.out.later hb1)
  have HB1 := Lib.hid (HB2.out.trans (hb1.mono HB2.out.size))
  clear hb1 t0 t1 t2 t3 t4 t5 t6 tf HA HB2
  obtain ⟨t0, t1, t2, t3, t4, t5, t6, tf⟩ := HA1.out
  dsimp only at t1 t5 t6
  go_wp2_with fail
  refine (HE.out.low (HB.out.trans (HB1.out.mono hbs)) s HL.out.1).mono ?_
  rintro e w2 ⟨rfl, hb2⟩
  rw [HL.out.2.1]
  have HA2 := Lib.hid (HA1.out.later hb2)
  have HB2 := Lib.hid (HB1.out.trans (hb2.mono HB1.out.size))
  clear hb2 t0 t1 t2 t3 t4 t5 t6 tf HA1 HB1
  obtain ⟨t0, t1, t2, t3, t4, t5, t6, tf⟩ := HA2.out
  dsimp only at t1 t5 t6
  have hs2 := HB2.out.size
  have HO2 := Lib.hid (own_later HO.out HB2.out)
  have HBB := Lib.hid (HB.out.trans (HB2.out.mono hbs))
  clear HO HB
  go_wp2_with (first
    | (refine wpList_append_tok w2 rfl (.tmp 84) (.tmp 86) rfl w0.heap.size (.slice a5 l.length c5) l ⟨29, s, ws⟩ rfl HO2.out rfl (by omega) (by omega) ?_
       intro a' c' w9 hown9 hgr9
       have HO9 := Lib.hid hown9
       have HG9 := Lib.hid hgr9
       clear hown9 hgr9)
    | fail)
  have el : (l ++ [(⟨29, s, ws⟩ : TK)]).length = l.length + 1 := by rw [List.length_append]; rfl
  refine HQ.out _ w9 a' c' ⟨⟨rfl, rfl⟩, rfl, rfl, by rw [el]; rfl, rfl, ?_, ?_⟩
  · have h := HO9.out
    rw [el] at h ⊢
    exact h
  · exact HBB.out.trans (below_grown (w := w2) ((Below.refl _ _).alloc (by omega) _) HG9.out HO2.out (by omega))

set_option maxHeartbeats 4000000 in
set_option maxRecDepth 100000 in
theorem u_semi_expanded_wp {d : Code} (hcode : Tryz.f17.body.bind (fb 1) = some (.block 1 d)) (Q : Exit → Act → World → Prop) (a : Act) (W w0 : World) (p : Value) (T capT n cap k : Nat) (L l : List TK) (a5 : Option Addr) (c5 : Nat) (s lw : ByteArray) (ws : Int)
    (hE : Env1 w0 T capT L) (ha : Ent a W w0 p T n cap k l a5 c5) (hn : n = L.length) (hk : k < n) (hkt : L[k]? = some ⟨29, s, ws⟩) (hs : s.size ≤ 1048576) (hL : lowT s = lw) (hz : isSz 29 lw = false) (hl : l.length ≤ 10000) (hx : lw.toList = [115, 101, 109, 105, 45, 101, 120, 112, 97, 110, 100, 101, 100])
    (hQ : ∀ a' W' a5' c5', Ent a' W' w0 p T n cap k (l ++ [⟨29, s, ws⟩]) a5' c5' → Q .normal a' W') : Code.wp Tryz.prog (.block 1 d) Q a W := by
  have key : ∀ {D : Code}, Tryz.f17.body.bind (fb 1) = some (.block 1 D) → Code.wp Tryz.prog (.block 1 D) Q a W → Code.wp Tryz.prog (.block 1 d) Q a W := fun e h => by
    rw [e] at hcode
    cases hcode
    exact h
  refine key rfl ?_
  clear key hcode
  obtain ⟨hfr, e0, e1, e5, e6, hown, hbel⟩ := ha
  obtain ⟨xs, rfl, hxs⟩ := hfr.lit
  have x0 := hxs 0 _ (by omega) e0
  have x1 := hxs 1 _ (by omega) e1
  have x5 := hxs 5 _ (by omega) e5
  have x6 := hxs 6 _ (by omega) e6
  clear hxs e0 e1 e5 e6 hfr
  simp only [fr, x0, x1, x5, x6]
  clear x0 x1 x5 x6
  have HQ := Lib.hid hQ
  have HE := Lib.hid hE
  have HO := Lib.hid hown
  have HB := Lib.hid hbel
  have HL := Lib.hid (And.intro hs (And.intro hL hz))
  have HN := Lib.hid hn
  obtain ⟨hkl, hke⟩ := List.getElem?_eq_some_iff.1 hkt
  obtain ⟨p0, p1, p2, p3, p4, p5, p6⟩ := (hE.row.below hbel hE.row.lt).cells k hkl
  rw [hke] at p1 p5 p6
  dsimp only at p1 p5 p6
  have hkn : (k : Int) < (n : Int) := by omega
  have hbs := hbel.size
  have hTl := hE.row.lt
  clear hQ hE hown hbel hL hz hs hn hke hkl hkt
  go_upto_region 6 with fail
  obtain ⟨W2, eW⟩ : ∃ W2, W2 = W.alloc (.cells #[.pointer none, .string s, .int .i32 0, .int .u32 0, .int .u16 0, .int .u8 29, .int .u8 ws] 31) := ⟨_, rfl⟩
  have hA : Box W2 W.heap.size ⟨29, s, ws⟩ := by rw [eW]; exact Box.made W ⟨29, s, ws⟩
  have hB2 : Below W.heap.size W W2 := by rw [eW]; exact (Below.refl _ _).alloc (Nat.le_refl _) _
  rw [← eW]
  clear eW p0 p1 p2 p3 p4 p5 p6
  have HA := Lib.hid hA
  have HB2 := Lib.hid hB2
  obtain ⟨t0, t1, t2, t3, t4, t5, t6, tf⟩ := hA
  dsimp only at t1 t5 t6
  clear hB2
  go_wp2_with fail
  refine (fontsize_uni ⟨29, s, ws⟩ W2 HL.out.1 (HE.out.un.below (HB.out.trans (HB2.out.mono hbs))) (HE.out.kw.below (HB.out.trans (HB2.out.mono hbs)))).mono ?_
  rintro e w1 ⟨rfl, hb1⟩
  rw [show isSz (TK.mk 29 s ws).kd (lowT (TK.mk 29 s ws).s) = false by show isSz 29 (lowT s) = false; rw [HL.out.2.1]; exact HL.out.2.2]
  have HA1 := Lib.hid (HA.out.later hb1)
  have HB1 := Lib.hid (HB2.out.trans (hb1.mono HB2.out.size))
  clear hb1 t0 t1 t2 t3 t4 t5 t6 tf HA HB2
  obtain ⟨t0, t1, t2, t3, t4, t5, t6, tf⟩ := HA1.out
  dsimp only at t1 t5 t6
  go_wp2_with fail
  refine (HE.out.low (HB.out.trans (HB1.out.mono hbs)) s HL.out.1).mono ?_
  rintro e w2 ⟨rfl, hb2⟩
  rw [HL.out.2.1]
  have HA2 := Lib.hid (HA1.out.later hb2)
  have HB2 := Lib.hid (HB1.out.trans (hb2.mono HB1.out.size))
  clear hb2 t0 t1 t2 t3 t4 t5 t6 tf HA1 HB1
  obtain ⟨t0, t1, t2, t3, t4, t5, t6, tf⟩ := HA2.out
  dsimp only at t1 t5 t6
  have hs2 := HB2.out.size
  have HO2 := Lib.hid (own_later HO.out HB2.out)
  have HBB := Lib.hid (HB.out.trans (HB2.out.mono hbs))
  clear HO HB
  go_wp2_with (first
    | (refine wpList_append_tok w2 rfl (.tmp 84) (.tmp 86) rfl w0.heap.size (.slice a5 l.length c5) l ⟨29, s, ws⟩ rfl HO2.out rfl (by omega) (by omega) ?_
       intro a' c' w9 hown9 hgr9
       have HO9 := Lib.hid hown9
       have HG9 := Lib.hid hgr9
       clear hown9 hgr9)
    | fail)
  have el : (l ++ [(⟨29, s, ws⟩ : TK)]).length = l.length + 1 := by rw [List.length_append]; rfl
  refine HQ.out _ w9 a' c' ⟨⟨rfl, rfl⟩, rfl, rfl, by rw [el]; rfl, rfl, ?_, ?_⟩
  · have h := HO9.out
    rw [el] at h ⊢
    exact h
  · exact HBB.out.trans (below_grown (w := w2) ((Below.refl _ _).alloc (by omega) _) HG9.out HO2.out (by omega))

set_option maxHeartbeats 4000000 in
set_option maxRecDepth 100000 in
theorem u_expanded_wp {d : Code} (hcode : Tryz.f17.body.bind (fb 1) = some (.block 1 d)) (Q : Exit → Act → World → Prop) (a : Act) (W w0 : World) (p : Value) (T capT n cap k : Nat) (L l : List TK) (a5 : Option Addr) (c5 : Nat) (s lw : ByteArray) (ws : Int)
    (hE : Env1 w0 T capT L) (ha : Ent a W w0 p T n cap k l a5 c5) (hn : n = L.length) (hk : k < n) (hkt : L[k]? = some ⟨29, s, ws⟩) (hs : s.size ≤ 1048576) (hL : lowT s = lw) (hz : isSz 29 lw = false) (hl : l.length ≤ 10000) (hx : lw.toList = [101, 120, 112, 97, 110, 100, 101, 100])
    (hQ : ∀ a' W' a5' c5', Ent a' W' w0 p T n cap k (l ++ [⟨29, s, ws⟩]) a5' c5' → Q .normal a' W') : Code.wp Tryz.prog (.block 1 d) Q a W := by
  have key : ∀ {D : Code}, Tryz.f17.body.bind (fb 1) = some (.block 1 D) → Code.wp Tryz.prog (.block 1 D) Q a W → Code.wp Tryz.prog (.block 1 d) Q a W := fun e h => by
    rw [e] at hcode
    cases hcode
    exact h
  refine key rfl ?_
  clear key hcode
  obtain ⟨hfr, e0, e1, e5, e6, hown, hbel⟩ := ha
  obtain ⟨xs, rfl, hxs⟩ := hfr.lit
  have x0 := hxs 0 _ (by omega) e0
  have x1 := hxs 1 _ (by omega) e1
  have x5 := hxs 5 _ (by omega) e5
  have x6 := hxs 6 _ (by omega) e6
  clear hxs e0 e1 e5 e6 hfr
  simp only [fr, x0, x1, x5, x6]
  clear x0 x1 x5 x6
  have HQ := Lib.hid hQ
  have HE := Lib.hid hE
  have HO := Lib.hid hown
  have HB := Lib.hid hbel
  have HL := Lib.hid (And.intro hs (And.intro hL hz))
  have HN := Lib.hid hn
  obtain ⟨hkl, hke⟩ := List.getElem?_eq_some_iff.1 hkt
  obtain ⟨p0, p1, p2, p3, p4, p5, p6⟩ := (hE.row.below hbel hE.row.lt).cells k hkl
  rw [hke] at p1 p5 p6
  dsimp only at p1 p5 p6
  have hkn : (k : Int) < (n : Int) := by omega
  have hbs := hbel.size
  have hTl := hE.row.lt
  clear hQ hE hown hbel hL hz hs hn hke hkl hkt
  go_upto_region 6 with fail
  obtain ⟨W2, eW⟩ : ∃ W2, W2 = W.alloc (.cells #[.pointer none, .string s, .int .i32 0, .int .u32 0, .int .u16 0, .int .u8 29, .int .u8 ws] 31) := ⟨_, rfl⟩
  have hA : Box W2 W.heap.size ⟨29, s, ws⟩ := by rw [eW]; exact Box.made W ⟨29, s, ws⟩
  have hB2 : Below W.heap.size W W2 := by rw [eW]; exact (Below.refl _ _).alloc (Nat.le_refl _) _
  rw [← eW]
  clear eW p0 p1 p2 p3 p4 p5 p6
  have HA := Lib.hid hA
  have HB2 := Lib.hid hB2
  obtain ⟨t0, t1, t2, t3, t4, t5, t6, tf⟩ := hA
  dsimp only at t1 t5 t6
  clear hB2
  go_wp2_with fail
  refine (fontsize_uni ⟨29, s, ws⟩ W2 HL.out.1 (HE.out.un.below (HB.out.trans (HB2.out.mono hbs))) (HE.out.kw.below (HB.out.trans (HB2.out.mono hbs)))).mono ?_
  rintro e w1 ⟨rfl, hb1⟩
  rw [show isSz (TK.mk 29 s ws).kd (lowT (TK.mk 29 s ws).s) = false by show isSz 29 (lowT s) = false; rw [HL.out.2.1]; exact HL.out.2.2]
  have HA1 := Lib.hid (HA.out.later hb1)
  have HB1 := Lib.hid (HB2.out.trans (hb1.mono HB2.out.size))
  clear hb1 t0 t1 t2 t3 t4 t5 t6 tf HA HB2
  obtain ⟨t0, t1, t2, t3, t4, t5, t6, tf⟩ := HA1.out
  dsimp only at t1 t5 t6
  go_wp2_with fail
  refine (HE.out.low (HB.out.trans (HB1.out.mono hbs)) s HL.out.1).mono ?_
  rintro e w2 ⟨rfl, hb2⟩
  rw [HL.out.2.1]
  have HA2 := Lib.hid (HA1.out.later hb2)
  have HB2 := Lib.hid (HB1.out.trans (hb2.mono HB1.out.size))
  clear hb2 t0 t1 t2 t3 t4 t5 t6 tf HA1 HB1
  obtain ⟨t0, t1, t2, t3, t4, t5, t6, tf⟩ := HA2.out
  dsimp only at t1 t5 t6
  have hs2 := HB2.out.size
  have HO2 := Lib.hid (own_later HO.out HB2.out)
  have HBB := Lib.hid (HB.out.trans (HB2.out.mono hbs))
  clear HO HB
  go_wp2_with (first
    | (refine wpList_append_tok w2 rfl (.tmp 84) (.tmp 86) rfl w0.heap.size (.slice a5 l.length c5) l ⟨29, s, ws⟩ rfl HO2.out rfl (by omega) (by omega) ?_
       intro a' c' w9 hown9 hgr9
       have HO9 := Lib.hid hown9
       have HG9 := Lib.hid hgr9
       clear hown9 hgr9)
    | fail)
  have el : (l ++ [(⟨29, s, ws⟩ : TK)]).length = l.length + 1 := by rw [List.length_append]; rfl
  refine HQ.out _ w9 a' c' ⟨⟨rfl, rfl⟩, rfl, rfl, by rw [el]; rfl, rfl, ?_, ?_⟩
  · have h := HO9.out
    rw [el] at h ⊢
    exact h
  · exact HBB.out.trans (below_grown (w := w2) ((Below.refl _ _).alloc (by omega) _) HG9.out HO2.out (by omega))

set_option maxHeartbeats 4000000 in
set_option maxRecDepth 100000 in
theorem u_extra_expanded_wp {d : Code} (hcode : Tryz.f17.body.bind (fb 1) = some (.block 1 d)) (Q : Exit → Act → World → Prop) (a : Act) (W w0 : World) (p : Value) (T capT n cap k : Nat) (L l : List TK) (a5 : Option Addr) (c5 : Nat) (s lw : ByteArray) (ws : Int)
    (hE : Env1 w0 T capT L) (ha : Ent a W w0 p T n cap k l a5 c5) (hn : n = L.length) (hk : k < n) (hkt : L[k]? = some ⟨29, s, ws⟩) (hs : s.size ≤ 1048576) (hL : lowT s = lw) (hz : isSz 29 lw = false) (hl : l.length ≤ 10000) (hx : lw.toList = [101, 120, 116, 114, 97, 45, 101, 120, 112, 97, 110, 100, 101, 100])
    (hQ : ∀ a' W' a5' c5', Ent a' W' w0 p T n cap k (l ++ [⟨29, s, ws⟩]) a5' c5' → Q .normal a' W') : Code.wp Tryz.prog (.block 1 d) Q a W := by
  have key : ∀ {D : Code}, Tryz.f17.body.bind (fb 1) = some (.block 1 D) → Code.wp Tryz.prog (.block 1 D) Q a W → Code.wp Tryz.prog (.block 1 d) Q a W := fun e h => by
    rw [e] at hcode
    cases hcode
    exact h
  refine key rfl ?_
  clear key hcode
  obtain ⟨hfr, e0, e1, e5, e6, hown, hbel⟩ := ha
  obtain ⟨xs, rfl, hxs⟩ := hfr.lit
  have x0 := hxs 0 _ (by omega) e0
  have x1 := hxs 1 _ (by omega) e1
  have x5 := hxs 5 _ (by omega) e5
  have x6 := hxs 6 _ (by omega) e6
  clear hxs e0 e1 e5 e6 hfr
  simp only [fr, x0, x1, x5, x6]
  clear x0 x1 x5 x6
  have HQ := Lib.hid hQ
  have HE := Lib.hid hE
  have HO := Lib.hid hown
  have HB := Lib.hid hbel
  have HL := Lib.hid (And.intro hs (And.intro hL hz))
  have HN := Lib.hid hn
  obtain ⟨hkl, hke⟩ := List.getElem?_eq_some_iff.1 hkt
  obtain ⟨p0, p1, p2, p3, p4, p5, p6⟩ := (hE.row.below hbel hE.row.lt).cells k hkl
  rw [hke] at p1 p5 p6
  dsimp only at p1 p5 p6
  have hkn : (k : Int) < (n : Int) := by omega
  have hbs := hbel.size
  have hTl := hE.row.lt
  clear hQ hE hown hbel hL hz hs hn hke hkl hkt
  go_upto_region 6 with fail
  obtain ⟨W2, eW⟩ : ∃ W2, W2 = W.alloc (.cells #[.pointer none, .string s, .int .i32 0, .int .u32 0, .int .u16 0, .int .u8 29, .int .u8 ws] 31) := ⟨_, rfl⟩
  have hA : Box W2 W.heap.size ⟨29, s, ws⟩ := by rw [eW]; exact Box.made W ⟨29, s, ws⟩
  have hB2 : Below W.heap.size W W2 := by rw [eW]; exact (Below.refl _ _).alloc (Nat.le_refl _) _
  rw [← eW]
  clear eW p0 p1 p2 p3 p4 p5 p6
  have HA := Lib.hid hA
  have HB2 := Lib.hid hB2
  obtain ⟨t0, t1, t2, t3, t4, t5, t6, tf⟩ := hA
  dsimp only at t1 t5 t6
  clear hB2
  go_wp2_with fail
  refine (fontsize_uni ⟨29, s, ws⟩ W2 HL.out.1 (HE.out.un.below (HB.out.trans (HB2.out.mono hbs))) (HE.out.kw.below (HB.out.trans (HB2.out.mono hbs)))).mono ?_
  rintro e w1 ⟨rfl, hb1⟩
  rw [show isSz (TK.mk 29 s ws).kd (lowT (TK.mk 29 s ws).s) = false by show isSz 29 (lowT s) = false; rw [HL.out.2.1]; exact HL.out.2.2]
  have HA1 := Lib.hid (HA.out.later hb1)
  have HB1 := Lib.hid (HB2.out.trans (hb1.mono HB2.out.size))
  clear hb1 t0 t1 t2 t3 t4 t5 t6 tf HA HB2
  obtain ⟨t0, t1, t2, t3, t4, t5, t6, tf⟩ := HA1.out
  dsimp only at t1 t5 t6
  go_wp2_with fail
  refine (HE.out.low (HB.out.trans (HB1.out.mono hbs)) s HL.out.1).mono ?_
  rintro e w2 ⟨rfl, hb2⟩
  rw [HL.out.2.1]
  have HA2 := Lib.hid (HA1.out.later hb2)
  have HB2 := Lib.hid (HB1.out.trans (hb2.mono HB1.out.size))
  clear hb2 t0 t1 t2 t3 t4 t5 t6 tf HA1 HB1
  obtain ⟨t0, t1, t2, t3, t4, t5, t6, tf⟩ := HA2.out
  dsimp only at t1 t5 t6
  have hs2 := HB2.out.size
  have HO2 := Lib.hid (own_later HO.out HB2.out)
  have HBB := Lib.hid (HB.out.trans (HB2.out.mono hbs))
  clear HO HB
  go_wp2_with (first
    | (refine wpList_append_tok w2 rfl (.tmp 84) (.tmp 86) rfl w0.heap.size (.slice a5 l.length c5) l ⟨29, s, ws⟩ rfl HO2.out rfl (by omega) (by omega) ?_
       intro a' c' w9 hown9 hgr9
       have HO9 := Lib.hid hown9
       have HG9 := Lib.hid hgr9
       clear hown9 hgr9)
    | fail)
  have el : (l ++ [(⟨29, s, ws⟩ : TK)]).length = l.length + 1 := by rw [List.length_append]; rfl
  refine HQ.out _ w9 a' c' ⟨⟨rfl, rfl⟩, rfl, rfl, by rw [el]; rfl, rfl, ?_, ?_⟩
  · have h := HO9.out
    rw [el] at h ⊢
    exact h
  · exact HBB.out.trans (below_grown (w := w2) ((Below.refl _ _).alloc (by omega) _) HG9.out HO2.out (by omega))

set_option maxHeartbeats 4000000 in
set_option maxRecDepth 100000 in
theorem u_ultra_expanded_wp {d : Code} (hcode : Tryz.f17.body.bind (fb 1) = some (.block 1 d)) (Q : Exit → Act → World → Prop) (a : Act) (W w0 : World) (p : Value) (T capT n cap k : Nat) (L l : List TK) (a5 : Option Addr) (c5 : Nat) (s lw : ByteArray) (ws : Int)
    (hE : Env1 w0 T capT L) (ha : Ent a W w0 p T n cap k l a5 c5) (hn : n = L.length) (hk : k < n) (hkt : L[k]? = some ⟨29, s, ws⟩) (hs : s.size ≤ 1048576) (hL : lowT s = lw) (hz : isSz 29 lw = false) (hl : l.length ≤ 10000) (hx : lw.toList = [117, 108, 116, 114, 97, 45, 101, 120, 112, 97, 110, 100, 101, 100])
    (hQ : ∀ a' W' a5' c5', Ent a' W' w0 p T n cap k (l ++ [⟨29, s, ws⟩]) a5' c5' → Q .normal a' W') : Code.wp Tryz.prog (.block 1 d) Q a W := by
  have key : ∀ {D : Code}, Tryz.f17.body.bind (fb 1) = some (.block 1 D) → Code.wp Tryz.prog (.block 1 D) Q a W → Code.wp Tryz.prog (.block 1 d) Q a W := fun e h => by
    rw [e] at hcode
    cases hcode
    exact h
  refine key rfl ?_
  clear key hcode
  obtain ⟨hfr, e0, e1, e5, e6, hown, hbel⟩ := ha
  obtain ⟨xs, rfl, hxs⟩ := hfr.lit
  have x0 := hxs 0 _ (by omega) e0
  have x1 := hxs 1 _ (by omega) e1
  have x5 := hxs 5 _ (by omega) e5
  have x6 := hxs 6 _ (by omega) e6
  clear hxs e0 e1 e5 e6 hfr
  simp only [fr, x0, x1, x5, x6]
  clear x0 x1 x5 x6
  have HQ := Lib.hid hQ
  have HE := Lib.hid hE
  have HO := Lib.hid hown
  have HB := Lib.hid hbel
  have HL := Lib.hid (And.intro hs (And.intro hL hz))
  have HN := Lib.hid hn
  obtain ⟨hkl, hke⟩ := List.getElem?_eq_some_iff.1 hkt
  obtain ⟨p0, p1, p2, p3, p4, p5, p6⟩ := (hE.row.below hbel hE.row.lt).cells k hkl
  rw [hke] at p1 p5 p6
  dsimp only at p1 p5 p6
  have hkn : (k : Int) < (n : Int) := by omega
  have hbs := hbel.size
  have hTl := hE.row.lt
  clear hQ hE hown hbel hL hz hs hn hke hkl hkt
  go_upto_region 6 with fail
  obtain ⟨W2, eW⟩ : ∃ W2, W2 = W.alloc (.cells #[.pointer none, .string s, .int .i32 0, .int .u32 0, .int .u16 0, .int .u8 29, .int .u8 ws] 31) := ⟨_, rfl⟩
  have hA : Box W2 W.heap.size ⟨29, s, ws⟩ := by rw [eW]; exact Box.made W ⟨29, s, ws⟩
  have hB2 : Below W.heap.size W W2 := by rw [eW]; exact (Below.refl _ _).alloc (Nat.le_refl _) _
  rw [← eW]
  clear eW p0 p1 p2 p3 p4 p5 p6
  have HA := Lib.hid hA
  have HB2 := Lib.hid hB2
  obtain ⟨t0, t1, t2, t3, t4, t5, t6, tf⟩ := hA
  dsimp only at t1 t5 t6
  clear hB2
  go_wp2_with fail
  refine (fontsize_uni ⟨29, s, ws⟩ W2 HL.out.1 (HE.out.un.below (HB.out.trans (HB2.out.mono hbs))) (HE.out.kw.below (HB.out.trans (HB2.out.mono hbs)))).mono ?_
  rintro e w1 ⟨rfl, hb1⟩
  rw [show isSz (TK.mk 29 s ws).kd (lowT (TK.mk 29 s ws).s) = false by show isSz 29 (lowT s) = false; rw [HL.out.2.1]; exact HL.out.2.2]
  have HA1 := Lib.hid (HA.out.later hb1)
  have HB1 := Lib.hid (HB2.out.trans (hb1.mono HB2.out.size))
  clear hb1 t0 t1 t2 t3 t4 t5 t6 tf HA HB2
  obtain ⟨t0, t1, t2, t3, t4, t5, t6, tf⟩ := HA1.out
  dsimp only at t1 t5 t6
  go_wp2_with fail
  refine (HE.out.low (HB.out.trans (HB1.out.mono hbs)) s HL.out.1).mono ?_
  rintro e w2 ⟨rfl, hb2⟩
  rw [HL.out.2.1]
  have HA2 := Lib.hid (HA1.out.later hb2)
  have HB2 := Lib.hid (HB1.out.trans (hb2.mono HB1.out.size))
  clear hb2 t0 t1 t2 t3 t4 t5 t6 tf HA1 HB1
  obtain ⟨t0, t1, t2, t3, t4, t5, t6, tf⟩ := HA2.out
  dsimp only at t1 t5 t6
  have hs2 := HB2.out.size
  have HO2 := Lib.hid (own_later HO.out HB2.out)
  have HBB := Lib.hid (HB.out.trans (HB2.out.mono hbs))
  clear HO HB
  go_wp2_with (first
    | (refine wpList_append_tok w2 rfl (.tmp 84) (.tmp 86) rfl w0.heap.size (.slice a5 l.length c5) l ⟨29, s, ws⟩ rfl HO2.out rfl (by omega) (by omega) ?_
       intro a' c' w9 hown9 hgr9
       have HO9 := Lib.hid hown9
       have HG9 := Lib.hid hgr9
       clear hown9 hgr9)
    | fail)
  have el : (l ++ [(⟨29, s, ws⟩ : TK)]).length = l.length + 1 := by rw [List.length_append]; rfl
  refine HQ.out _ w9 a' c' ⟨⟨rfl, rfl⟩, rfl, rfl, by rw [el]; rfl, rfl, ?_, ?_⟩
  · have h := HO9.out
    rw [el] at h ⊢
    exact h
  · exact HBB.out.trans (below_grown (w := w2) ((Below.refl _ _).alloc (by omega) _) HG9.out HO2.out (by omega))
end Go.Proofs.YtoeahdefgblmoaaGreatDoor
