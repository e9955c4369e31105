/-
  The walk of the law on imports.
-/
import Derived.Test.YtfglnnofnnmojaaGreatFmtE
namespace Go.Proofs.YtfglnnofnnmojaaGreatFmt
open Go.RowKit Go.Maps Go.Deep

theorem Strs.below {w w' : World} {a : Option Addr} {ss : List ByteArray} (h : Strs w a ss) (hb : Below w.heap.size w w') : Strs w' a ss := fun i hi => by
  obtain ⟨b, off, e, hc⟩ := h i hi
  exact ⟨b, off, e, cell_later hb hc⟩

/-- The resolver's answer, read out. -/
def Read (res : ByteArray) (st t1 t2 : Int) (w : World) (e : Ending) (w' : World) : Prop :=
  e = .returned (.tuple #[.string res, .int .u8 st, .string ⟨#[]⟩, .int .i64 0, .int .i32 t1, .int .i32 t2, .bool false]) ∧ Below w.heap.size w w'

set_option maxHeartbeats 2000000 in
set_option maxRecDepth 100000 in
theorem res9 (s : ByteArray) (kd t1 t2 : Int) (a : Option Addr) (cap : Nat) (ss : List ByteArray) (r : Option Nat) (w : World) (res : ByteArray) (st : Int) (hs : Strs w a ss) (hl : ss.length ≤ 1048576)
    (h15 : ∀ (am : Option Addr) (cm : Nat) (W : World), Ents W am ss → Calls Tryz.prog 15 #[.agg rq, .string s, .agg (entV kd t1 t2 am ss.length cm), .map r] W (Answers res st t1 t2 W)) :
    Calls Tryz.prog 9 #[.string s, .int .u8 kd, .slice a ss.length cap, .int .i32 t1, .int .i32 t2, .map r] w (Read res st t1 t2 w) := by
  have H14 := Lib.hid (entry_any kd t1 t2 a cap ss w hs hl)
  have H15 := Lib.hid h15
  clear hs h15
  go_enter Tryz.func9, Tryz.ntmps9
  go_wp2_with fail
  refine H14.out.mono ?_
  rintro e w1 ⟨am, cm, rfl, hE, hb1⟩
  have hbA : Below w1.heap.size w1 (w1.alloc (.cells (entV kd t1 t2 am ss.length cm) 45)) := (Below.refl _ _).alloc (Nat.le_refl _) _
  have C15 := Lib.hid (H15.out am cm _ (hE.below hbA))
  have HB1 := Lib.hid hb1
  clear hE hb1 hbA
  go_wp2_with fail
  refine C15.out.mono ?_
  rintro e w2 ⟨he, hb2⟩
  unfold dbg at he
  subst he
  have HB2 := Lib.hid (HB1.out.trans (((Below.refl w1.heap.size w1).alloc (Nat.le_refl _) _).trans (hb2.mono (by simp)) |>.mono HB1.out.size))
  clear hb2
  go_wp2_with fail
  go_quiet (fail)
  go_wp2_with fail
  refine bodyPost_ret (v := .tuple #[.string res, .int .u8 st, .string ⟨#[]⟩, .int .i64 0, .int .i32 t1, .int .i32 t2, .bool false]) (by simp [results, Tryz.results9, go_sem]) rfl ⟨rfl, ?_⟩
  exact below_drewN (HB2.out.alloc HB2.out.size _) _

/-- Which answer it is. -/
theorem answer (s : ByteArray) (kd t1 t2 : Int) (ss : List ByteArray) (hp : Prem s kd ss) (hl : ss.length ≤ 1048576) (hz : s.size ≤ 1048576) :
    ∃ (res : ByteArray) (st : Int), 6 ≤ st ∧ ∀ (r : Option Nat) (am : Option Addr) (cm : Nat) (W : World), Ents W am ss → Calls Tryz.prog 15 #[.agg rq, .string s, .agg (entV kd t1 t2 am ss.length cm), .map r] W (Answers res st t1 t2 W) := by
  by_cases h3 : kd = 3
  · subst h3
    exact ⟨s, 11, by omega, fun r am cm W hE => res15_yes s t1 t2 am cm ss r W hE hl hz (hp.2.2 rfl)⟩
  · exact ⟨⟨#[]⟩, 8, by omega, fun r am cm W _ => res15_no s kd t1 t2 am ss.length cm r W h3⟩

set_option maxHeartbeats 2000000 in
set_option maxRecDepth 100000 in
theorem law (s : ByteArray) (kd t1 t2 : Int) (a1 a2 : Option Addr) (c1 c2 : Nat) (ss1 ss2 : List ByteArray) (w : World) (h1 : Strs w a1 ss1) (h2 : Strs w a2 ss2) :
    Calls Tryz.prog 3 #[.string s, .int .u8 kd, .slice a1 ss1.length c1, .int .i32 t1, .int .i32 t2, .slice a2 ss2.length c2] w fun e w' => e = .returned (.bool true) ∧ Below w.heap.size w w' := by
  have H4 := Lib.hid (zz_any s kd t1 t2 a1 a2 c1 c2 ss1 ss2 w h1 h2)
  have H1 := Lib.hid h1
  have H2 := Lib.hid h2
  clear h1 h2
  go_enter Tryz.func3, Tryz.ntmps3
  go_wp2_with fail
  refine H4.out.mono ?_
  rintro e w' ⟨b, hf, rfl, rfl⟩
  cases b
  · go_wp2_with fail
    go_ret
    exact ⟨rfl, Below.refl _ _⟩
  obtain ⟨f0, f1, f2, f3, f4⟩ := hf rfl
  have HA := Lib.hid (bytes_any a1 c1 ss1 w H1.out f2 f1)
  have HB := Lib.hid (bytes_any a2 c2 ss2 w H2.out f4 f3)
  have HC := Lib.hid (clone_any a1 c1 ss1 w H1.out f1)
  have H6 := Lib.hid (prem_any s kd a1 c1 ss1 w H1.out f2 f1 f0)
  have F2 := Lib.hid f2
  have F4 := Lib.hid f4
  clear f2 f4 hf
  go_wp2_with fail
  refine HA.out.mono ?_
  rintro e w' ⟨n1, ⟨g1, g2⟩, rfl, rfl⟩
  go_wp2_with fail
  refine HB.out.mono ?_
  rintro e w' ⟨n2, ⟨g3, g4⟩, rfl, rfl⟩
  by_cases hbig : 1048576 < (s.size : Int) + n1 + n2
  · go_wp2_with fail
    go_ret
    exact ⟨rfl, Below.refl _ _⟩
  go_wp2_with fail
  refine H6.out.mono ?_
  rintro e w' ⟨b, hp, rfl, rfl⟩
  cases b
  · go_wp2_with fail
    go_ret
    exact ⟨rfl, Below.refl _ _⟩
  obtain ⟨res, st, hst, h15⟩ := answer s kd t1 t2 ss1 (hp rfl) f1 f0
  have H15 := Lib.hid h15
  clear h15 hp
  go_wp2_with fail
  refine HC.out.mono ?_
  rintro e w1 ⟨b1, d1, rfl, hs1, hb1⟩
  have HD := Lib.hid (clone_any a2 c2 ss2 w1 (H2.out.below hb1) f3)
  have S1 := Lib.hid hs1
  have B1 := Lib.hid hb1
  clear hs1 hb1
  go_wp2_with fail
  refine HD.out.mono ?_
  rintro e w2 ⟨b2, d2, rfl, hs2, hb2⟩
  have HE := Lib.hid (cond_any b2 d2 ss2 w2 hs2 F4.out f3)
  have S1' := Lib.hid (S1.out.below hb2)
  have B2 := Lib.hid (B1.out.trans (hb2.mono B1.out.size))
  clear hs2 hb2 S1 B1
  go_wp2_with fail
  refine HE.out.mono ?_
  rintro e w3 ⟨r, rfl, hb3⟩
  have HF := Lib.hid (res9 s kd t1 t2 b1 d1 ss1 (some r) w3 res st (S1'.out.below hb3) f1 (H15.out _))
  have S3 := Lib.hid (S1'.out.below hb3)
  have B3 := Lib.hid (B2.out.trans (hb3.mono B2.out.size))
  clear hb3 S1' B2
  go_wp2_with fail
  refine HF.out.mono ?_
  rintro e w4 ⟨rfl, hb4⟩
  have HG := Lib.hid (res9 s kd t1 t2 b1 d1 ss1 none w4 res st (S3.out.below hb4) f1 (H15.out _))
  have B4 := Lib.hid (B3.out.trans (hb4.mono B3.out.size))
  clear hb4 S3 B3
  go_wp2_with fail
  refine HG.out.mono ?_
  rintro e w5 ⟨rfl, hb5⟩
  have B5 := Lib.hid (B4.out.trans (hb5.mono B4.out.size))
  clear hb5 B4
  go_wp2_with fail
  refine (undef_any _ _ (by omega)).mono ?_
  rintro e w' ⟨rfl, rfl⟩
  go_wp2_with fail
  refine (post11 _ _ _ _ _ _ _ hst).mono ?_
  rintro e w6 ⟨rfl, hb6⟩
  have B6 := Lib.hid (B5.out.trans (hb6.mono B5.out.size))
  clear hb6 B5
  go_wp2_with fail
  go_ret
  exact ⟨rfl, B6.out⟩

/-- The walk, in the frame's form. -/
theorem fnImportsResolveSettledByPostConditions_walk (s0 : ByteArray) (x1 : Int) (a2 : Option Addr) (cap2 : Nat) (z2 : List ByteArray) (x3 x4 : Int) (a5 : Option Addr) (cap5 : Nat) (z5 : List ByteArray) (W : World)
    (_ : s0.size ≤ maxLen) (_ : (Lit.int .u8 x1).wf = true) (h2 : Strs W a2 z2) (_ : (Lit.int .i32 x3).wf = true) (_ : (Lit.int .i32 x4).wf = true) (h5 : Strs W a5 z5) :
    Calls Tryz.prog 3 #[.string s0, .int .u8 x1, .slice a2 z2.length cap2, .int .i32 x3, .int .i32 x4, .slice a5 z5.length cap5] W fun e w' => e = .returned (.bool true) ∧ Below W.heap.size W w' :=
  law s0 x1 x3 x4 a2 a5 cap2 cap5 z2 z5 W h2 h5
end Go.Proofs.YtfglnnofnnmojaaGreatFmt
