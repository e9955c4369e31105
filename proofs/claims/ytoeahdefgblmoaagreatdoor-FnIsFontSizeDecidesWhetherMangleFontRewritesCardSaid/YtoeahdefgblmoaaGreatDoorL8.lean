/-
  mangleFont on a token that is no size, and serif: the tokens as they were.
-/
import Derived.Test.YtoeahdefgblmoaaGreatDoorL6
namespace Go.Proofs.YtoeahdefgblmoaaGreatDoor
open Go.RowKit Go.Deep Go.PlainAid Go.Maps Go.Sort

theorem tok_wp {d : Code} (hcode : Tryz.f17.body.bind (fb 1) = some (.block 1 d)) (Q : Exit → Act → World → Prop) (a : Act) (W w0 : World) (p : Value) (T capT n cap k : Nat) (L l : List TK) (a5 : Option Addr) (c5 : Nat) (t : TK)
    (hE : Env1 w0 T capT L) (ha : Ent a W w0 p T n cap k l a5 c5) (hn : n = L.length) (hk : k < n) (hkb : k ≤ 100000) (hkt : L[k]? = some t) (hs : t.s.size ≤ 1048576) (hz : isSz t.kd (lowT t.s) = false) (hl : l.length ≤ 10000) (nt : TK) (hnt : L[k + 1]? = some nt) (hnk : nt.kd ≠ 26)
    (hQ : ∀ a' W' l' a5' c5', l'.length ≤ l.length + 1 → Ent a' W' w0 p T n cap k l' a5' c5' → Q .normal a' W')
    (hR : ∀ a' W', Fr a' → a'.tmps[4]? = some (.slice (some ⟨T, 0, none⟩) n cap) → Below w0.heap.size w0 W' → Q .ret a' W') : Code.wp Tryz.prog (.block 1 d) Q a W := by
  obtain ⟨kd, s, ws⟩ := t
  dsimp only at hs hz
  have el : ∀ tk : TK, (l ++ [tk]).length ≤ l.length + 1 := fun tk => by rw [List.length_append]; exact Nat.le_refl _
  by_cases k1 : kd = 29
  · subst k1
    obtain ⟨lw, hL⟩ : ∃ lw, lowT s = lw := ⟨_, rfl⟩
    rw [hL] at hz
    by_cases hx : lw.toList = [110, 111, 114, 109, 97, 108]
    · exact u_normal_wp hcode Q a W w0 p T capT n cap k L l a5 c5 s lw ws hE ha hn hk hkt hs hL hz hl hx (fun a' W' a5' c5' h => hQ a' W' _ a5' c5' (by rw [List.append_nil]; omega) h)
    have n0 := beq_eq_false_iff_ne.2 hx
    clear hx
    by_cases hx : lw.toList = [105, 116, 97, 108, 105, 99]
    · exact u_italic_wp hcode Q a W w0 p T capT n cap k L l a5 c5 s lw ws hE ha hn hk hkt hs hL hz hl hx (fun a' W' a5' c5' h => hQ a' W' _ a5' c5' (el _) h)
    have n1 := beq_eq_false_iff_ne.2 hx
    clear hx
    by_cases hx : lw.toList = [111, 98, 108, 105, 113, 117, 101]
    · exact u_oblique_wp hcode Q a W w0 p T capT n cap k L l a5 c5 s lw ws hE ha hn hk hkt hs hL hz hl hx hkb nt sfS hnt (fun h => absurd h hnk) (fun a' W' a5' c5' h => hQ a' W' _ a5' c5' (el _) h)
    have n2 := beq_eq_false_iff_ne.2 hx
    clear hx
    by_cases hx : lw.toList = [115, 109, 97, 108, 108, 45, 99, 97, 112, 115]
    · exact u_small_caps_wp hcode Q a W w0 p T capT n cap k L l a5 c5 s lw ws hE ha hn hk hkt hs hL hz hl hx (fun a' W' a5' c5' h => hQ a' W' _ a5' c5' (el _) h)
    have n3 := beq_eq_false_iff_ne.2 hx
    clear hx
    by_cases hx : lw.toList = [98, 111, 108, 100]
    · exact u_bold_wp hcode Q a W w0 p T capT n cap k L l a5 c5 s lw ws hE ha hn hk hkt hs hL hz hl hx (fun tk a' W' a5' c5' h => hQ a' W' _ a5' c5' (el _) h)
    have n4 := beq_eq_false_iff_ne.2 hx
    clear hx
    by_cases hx : lw.toList = [98, 111, 108, 100, 101, 114]
    · exact u_bolder_wp hcode Q a W w0 p T capT n cap k L l a5 c5 s lw ws hE ha hn hk hkt hs hL hz hl hx (fun tk a' W' a5' c5' h => hQ a' W' _ a5' c5' (el _) h)
    have n5 := beq_eq_false_iff_ne.2 hx
    clear hx
    by_cases hx : lw.toList = [108, 105, 103, 104, 116, 101, 114]
    · exact u_lighter_wp hcode Q a W w0 p T capT n cap k L l a5 c5 s lw ws hE ha hn hk hkt hs hL hz hl hx (fun tk a' W' a5' c5' h => hQ a' W' _ a5' c5' (el _) h)
    have n6 := beq_eq_false_iff_ne.2 hx
    clear hx
    by_cases hx : lw.toList = [117, 108, 116, 114, 97, 45, 99, 111, 110, 100, 101, 110, 115, 101, 100]
    · exact u_ultra_condensed_wp hcode Q a W w0 p T capT n cap k L l a5 c5 s lw ws hE ha hn hk hkt hs hL hz hl hx (fun a' W' a5' c5' h => hQ a' W' _ a5' c5' (el _) h)
    have n7 := beq_eq_false_iff_ne.2 hx
    clear hx
    by_cases hx : lw.toList = [101, 120, 116, 114, 97, 45, 99, 111, 110, 100, 101, 110, 115, 101, 100]
    · exact u_extra_condensed_wp hcode Q a W w0 p T capT n cap k L l a5 c5 s lw ws hE ha hn hk hkt hs hL hz hl hx (fun a' W' a5' c5' h => hQ a' W' _ a5' c5' (el _) h)
    have n8 := beq_eq_false_iff_ne.2 hx
    clear hx
    by_cases hx : lw.toList = [99, 111, 110, 100, 101, 110, 115, 101, 100]
    · exact u_condensed_wp hcode Q a W w0 p T capT n cap k L l a5 c5 s lw ws hE ha hn hk hkt hs hL hz hl hx (fun a' W' a5' c5' h => hQ a' W' _ a5' c5' (el _) h)
    have n9 := beq_eq_false_iff_ne.2 hx
    clear hx
    by_cases hx : lw.toList = [115, 101, 109, 105, 45, 99, 111, 110, 100, 101, 110, 115, 101, 100]
    · exact u_semi_condensed_wp hcode Q a W w0 p T capT n cap k L l a5 c5 s lw ws hE ha hn hk hkt hs hL hz hl hx (fun a' W' a5' c5' h => hQ a' W' _ a5' c5' (el _) h)
    have n10 := beq_eq_false_iff_ne.2 hx
    clear hx
    by_cases hx : lw.toList = [115, 101, 109, 105, 45, 101, 120, 112, 97, 110, 100, 101, 100]
    · exact u_semi_expanded_wp hcode Q a W w0 p T capT n cap k L l a5 c5 s lw ws hE ha hn hk hkt hs hL hz hl hx (fun a' W' a5' c5' h => hQ a' W' _ a5' c5' (el _) h)
    have n11 := beq_eq_false_iff_ne.2 hx
    clear hx
    by_cases hx : lw.toList = [101, 120, 112, 97, 110, 100, 101, 100]
    · exact u_expanded_wp hcode Q a W w0 p T capT n cap k L l a5 c5 s lw ws hE ha hn hk hkt hs hL hz hl hx (fun a' W' a5' c5' h => hQ a' W' _ a5' c5' (el _) h)
    have n12 := beq_eq_false_iff_ne.2 hx
    clear hx
    by_cases hx : lw.toList = [101, 120, 116, 114, 97, 45, 101, 120, 112, 97, 110, 100, 101, 100]
    · exact u_extra_expanded_wp hcode Q a W w0 p T capT n cap k L l a5 c5 s lw ws hE ha hn hk hkt hs hL hz hl hx (fun a' W' a5' c5' h => hQ a' W' _ a5' c5' (el _) h)
    have n13 := beq_eq_false_iff_ne.2 hx
    clear hx
    by_cases hx : lw.toList = [117, 108, 116, 114, 97, 45, 101, 120, 112, 97, 110, 100, 101, 100]
    · exact u_ultra_expanded_wp hcode Q a W w0 p T capT n cap k L l a5 c5 s lw ws hE ha hn hk hkt hs hL hz hl hx (fun a' W' a5' c5' h => hQ a' W' _ a5' c5' (el _) h)
    have n14 := beq_eq_false_iff_ne.2 hx
    clear hx
    exact u_none_wp hcode Q a W w0 p T capT n cap k L l a5 c5 s lw ws hE ha hn hk hkt hs hL hz n0 n1 n2 n3 n4 n5 n6 n7 n8 n9 n10 n11 n12 n13 n14 hR
  · by_cases k2 : kd = 30
    · subst k2
      exact u_number_wp hcode Q a W w0 p T capT n cap k L l a5 c5 s _ ws hE ha hn hk hkt hs rfl hz hl (fun a' W' a5' c5' h => hQ a' W' _ a5' c5' (el _) h) hR
    · exact u_other_wp hcode Q a W w0 p T capT n cap k L l a5 c5 s _ ws kd hE ha hn hk hkt hs rfl hz (beq_eq_false_iff_ne.2 k1) (beq_eq_false_iff_ne.2 k2) hR

theorem low_sf : lowT sfS = sfS := by rfl
theorem sz_sf : isSz 29 sfS = false := by rfl

/-- The loop: the first token, then serif. -/
def Inv1 (w0 : World) (p : Value) (T : Nat) (a : Act) (w : World) : Prop := ∃ (k : Nat) (l : List TK) (a5 : Option Addr) (c5 : Nat), k ≤ 1 ∧ l.length ≤ k ∧ Ent a w w0 p T 2 2 k l a5 c5

set_option maxHeartbeats 4000000 in
set_option maxRecDepth 100000 in
theorem mangle_none (p0 T capT : Nat) (t : TK) (w0 : World) (hE : Env1 w0 T capT [t, sf 0]) (hs : t.s.size ≤ 1048576) (hz : isSz t.kd (lowT t.s) = false) :
    Calls Tryz.prog 17 #[.pointer (some ⟨p0, 0, none⟩), .slice (some ⟨T, 0, none⟩) 2 2] w0 (fun e w' => e = .returned (.slice (some ⟨T, 0, none⟩) 2 2) ∧ Below w0.heap.size w0 w') := by
  have HE := Lib.hid hE
  have HS := Lib.hid (And.intro hs hz)
  clear hE hs hz
  go_enter Tryz.func17, Tryz.ntmps17
  go_upto_block 0 with fail
  refine wp_block ?_
  refine wp_loop (Inv1 w0 (.pointer (some ⟨p0, 0, none⟩)) T) (fun a _ => 2 - intAt a 6)
    ⟨0, [], none, 0, by omega, by simp, ⟨rfl, rfl⟩, rfl, rfl, rfl, rfl, World.ownsRow_nil _ _ _ _, Below.refl _ _⟩ ?_
  rintro a w ⟨k, l, a5, c5, hk, hl, hent⟩
  obtain ⟨xs, rfl, hxs⟩ := hent.fr.lit
  have x0 := hxs 0 _ (by omega) hent.e0
  have x1 := hxs 1 _ (by omega) hent.e1
  have x5 := hxs 5 _ (by omega) hent.e5
  have x6 := hxs 6 _ (by omega) hent.e6
  have HO := Lib.hid hent.own
  have HB := Lib.hid hent.bel
  have HL := Lib.hid hl
  clear hxs hent hl
  simp only [fr, x0, x1, x5, x6]
  clear x0 x1 x5 x6
  have hkn : (k : Int) < 2 := by omega
  have hkb : (k : Int) ≤ 100000 := by omega
  by_cases h0 : k = 0
  · subst h0
    go_upto_block 1 with fail
    refine tok_wp rfl _ _ w w0 (.pointer (some ⟨p0, 0, none⟩)) T capT 2 2 0 [t, sf 0] l a5 c5 t HE.out ⟨⟨rfl, rfl⟩, rfl, rfl, rfl, rfl, HO.out, HB.out⟩ rfl (by omega) (by omega) rfl HS.out.1 HS.out.2 (by have := HL.out; omega) (sf 0) rfl (by decide) ?_ ?_
    · intro a' W' l' a5' c5' hl' hent
      obtain ⟨xs, rfl, hxs⟩ := hent.fr.lit
      have x0 := hxs 0 _ (by omega) hent.e0
      have x1 := hxs 1 _ (by omega) hent.e1
      have x5 := hxs 5 _ (by omega) hent.e5
      have x6 := hxs 6 _ (by omega) hent.e6
      have HO' := Lib.hid hent.own
      have HB' := Lib.hid hent.bel
      have HL' := Lib.hid hl'
      clear hxs hent hl'
      simp only [fr, x0, x1, x5, x6]
      clear x0 x1 x5 x6
      go_wp2_with fail
      refine ⟨⟨1, l', a5', c5', by omega, by have h1 := HL.out; have h2 := HL'.out; omega, ⟨rfl, rfl⟩, rfl, rfl, rfl, rfl, HO'.out, HB'.out⟩, ?_⟩
      show 2 - ((1 : Int)).toNat < 2 - ((0 : Int)).toNat
      decide
    · intro a' W' hfr e4 hb
      obtain ⟨xs, rfl, hxs⟩ := hfr.lit
      have x4 := hxs 4 _ (by omega) e4
      clear hxs e4 hfr
      simp only [fr, x4]
      go_wp2_with fail
      refine bodyPost_ret (v := .slice (some ⟨T, 0, none⟩) 2 2) (by simp [results, Tryz.results17, go_sem]) rfl ⟨rfl, hb⟩
  · obtain rfl : k = 1 := by omega
    go_upto_block 1 with fail
    refine u_none_wp rfl _ _ w w0 (.pointer (some ⟨p0, 0, none⟩)) T capT 2 2 1 [t, sf 0] l a5 c5 sfS sfS 0 HE.out ⟨⟨rfl, rfl⟩, rfl, rfl, rfl, rfl, HO.out, HB.out⟩ rfl (by omega) rfl (by decide) low_sf sz_sf (by decide +kernel) (by decide +kernel) (by decide +kernel) (by decide +kernel) (by decide +kernel) (by decide +kernel) (by decide +kernel) (by decide +kernel) (by decide +kernel) (by decide +kernel) (by decide +kernel) (by decide +kernel) (by decide +kernel) (by decide +kernel) (by decide +kernel) ?_
    intro a' W' hfr e4 hb
    obtain ⟨xs, rfl, hxs⟩ := hfr.lit
    have x4 := hxs 4 _ (by omega) e4
    clear hxs e4 hfr
    simp only [fr, x4]
    go_wp2_with fail
    refine bodyPost_ret (v := .slice (some ⟨T, 0, none⟩) 2 2) (by simp [results, Tryz.results17, go_sem]) rfl ⟨rfl, hb⟩
end Go.Proofs.YtoeahdefgblmoaaGreatDoor
