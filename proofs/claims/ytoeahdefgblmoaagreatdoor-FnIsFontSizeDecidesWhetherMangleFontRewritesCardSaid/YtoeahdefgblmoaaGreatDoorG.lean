/-
  mangleFamilyNameOrGenericName at a generic name; mangleFontFamily at a list of generic names.
-/
import Derived.Test.YtoeahdefgblmoaaGreatDoorF
import Derived.Deep.RegionLaw
namespace Go.Proofs.YtoeahdefgblmoaaGreatDoor
open Go.RowKit Go.Deep Go.PlainAid Go.Maps Go.Sort

/-- append of one token, inside a region that draws. -/
theorem step_append_tok {ops : Array Oper} {o : Oper} {a : Act} {K : Act → World → Prop} {Q : Exit → Act → World → Prop} {E : Prop} (w : World) (hgd : o.guard = none) (s x : Operand)
    (ho : o.op = .call { callee := .builtin .append, args := #[s, x], argTypes := #[32, 32] }) (base : Nat) (v : Value) (l : List TK) (t : TK) (hs : a.eval s = v) (hown : w.ownsRow base 31 7 v l.length (rowT l))
    (hx : a.eval x = .slice (some ⟨w.heap.size, 0, none⟩) 1 1) (hl : l.length ≤ 1000000) (hbase : base ≤ w.heap.size)
    (h : ∀ a' c' w', w'.ownsRow base 31 7 (.slice a' (l.length + 1) c') (l ++ [t]).length (rowT (l ++ [t])) → (w.alloc (.cells #[.pointer none, .string t.s, .int .i32 0, .int .u32 0, .int .u16 0, .int .u8 t.kd, .int .u8 t.ws] 31)).grownBy w' v.ownBlock →
      K (a.put o.dst (.slice a' (l.length + 1) c')) w') :
    if Region.wanted o (yielded ops a.tmps) = true then Oper.wp Tryz.prog o a (w.alloc (.cells #[.pointer none, .string t.s, .int .i32 0, .int .u32 0, .int .u16 0, .int .u8 t.kd, .int .u8 t.ws] 31)) K Q else E := by
  obtain ⟨i0, hi0, hzz⟩ := Option.map_eq_some_iff.1 info31
  simp only [Prod.mk.injEq] at hzz
  obtain ⟨hz0, hz1, hz2⟩ := hzz
  rw [if_pos (by simp [Region.wanted, hgd])]
  refine wp_append_own (P := Tryz.prog) _ s x 32 ho base 31 i0 _ 7 40 Tryz.underlying32 hi0 hz0 hz1 hz2 rfl (by decide) v l.length (rowT l) hs (hown.alloc _) ⟨w.heap.size, 0, none⟩ 1 1 t.vals hx rfl (tok_cells w t) (vals_one t) (by unfold maxLen; omega) (by omega) (by rw [World.size_alloc]; omega) ?_
  intro v' w' hown' hgr _
  obtain ⟨a', c', rfl⟩ := own_slice hown'
  refine h a' c' w' ?_ hgr
  rw [List.length_append, List.length_singleton, rowT_append, rowT_one]
  exact hown'

theorem below_grown {B : Nat} {w w1 w2 : World} {v : Value} {e : TypeId} {n : Nat} {xs : List Value} (hb : Below B w w1) (hg : w1.grownBy w2 v.ownBlock) (hown : w.ownsRow B e 7 v n xs) (hB : B ≤ w.heap.size) : Below B w w2 :=
  hb.grown hg (Nat.le_trans hB hb.size) (fun k hk => (hown.lt k hk).1)

theorem wpList_lookup_wanted {ops : Array Oper} {rest : List Oper} {o : Oper} {a : Act} {Q : Exit → Act → World → Prop} (w : World) (m x : Operand) (t : TypeId) (c : Bool) (hop : o.op = Op.lookup t m x c)
    {mv kv r : Value} (hm : a.eval m = mv) (hx : a.eval x = kv) (hr : (Instr.lookup t mv kv c).run Tryz.prog w = .ok r w) (hw : Region.wanted o (yielded ops a.tmps) = true) (h : wpList Tryz.prog ops Q rest (a.put o.dst r) w) : wpList Tryz.prog ops Q (o :: rest) a w := by
  unfold wpList
  rw [if_pos hw]
  unfold Oper.wp
  simp [execOp, hop, hm, hx, hr, Result.andThen]
  exact .inl h

def FamPost (B T j n cap : Nat) (l : List TK) (t : TK) (w : World) (e : Ending) (w' : World) : Prop := ∃ a' c', e = .returned (.tuple #[.slice a' (l.length + 1) c', .slice (some ⟨T, (j + 1) * 7, none⟩) (n - 1) (cap - 1), .bool true]) ∧
  w'.ownsRow B 31 7 (.slice a' (l.length + 1) c') (l ++ [t]).length (rowT (l ++ [t])) ∧ Below B w w'

set_option maxHeartbeats 2000000 in
set_option maxRecDepth 100000 in
theorem famname_any (p : Value) (B T j n cap capT : Nat) (l inp : List TK) (a0 : Option Addr) (n0 c0 : Nat) (s : ByteArray) (ws : Int) (w : World) (hrow : RowAt w T capT inp) (hj : inp[j]? = some ⟨29, s, ws⟩)
    (hg : GF.atKey (.string s.data.toList) (.lit (.bool false)) = .lit (.bool true)) (hM : MapAt w 1 GF) (hs : s.size ≤ maxLen) (hown : w.ownsRow B 31 7 (.slice a0 n0 c0) l.length (rowT l)) (hB : B ≤ w.heap.size) (hn : 1 ≤ n) (hc : n < cap) (hl : l.length ≤ 900000) :
    Calls Tryz.prog 33 #[p, .slice a0 n0 c0, .slice (some ⟨T, j * 7, none⟩) n cap] w (FamPost B T j n cap l ⟨29, s, ws⟩ w) := by
  obtain ⟨hjl, hje⟩ := List.getElem?_eq_some_iff.1 hj
  obtain ⟨p0, p1, p2, p3, p4, p5, p6⟩ := hrow.cells j hjl
  rw [hje] at p1 p5 p6
  dsimp only at p1 p5 p6
  obtain ⟨b, x, g0, _, g1, hx⟩ := hM.look s hs
  rw [hg] at hx
  cases hx
  have HG := Lib.hid g1
  have HO := Lib.hid hown
  have hT := hrow.lt
  have hgb : b < w.heap.size ∨ True := .inr trivial
  have hn0 : 0 < (n : Int) := by omega
  have hcc : ¬ cap = 1 := by omega
  clear hrow hj hM hje hg hown g1 hgb
  go_enter Tryz.func33, Tryz.ntmps33
  go_upto_region 3 with fail
  obtain ⟨W2, eW⟩ : ∃ W2, W2 = w.alloc (.cells #[.pointer none, .string s, .int .i32 0, .int .u32 0, .int .u16 0, .int .u8 29, .int .u8 ws] 31) := ⟨_, rfl⟩
  have hA : Box W2 w.heap.size ⟨29, s, ws⟩ := by rw [eW]; exact Box.made w ⟨29, s, ws⟩
  have hBB : Below w.heap.size w W2 := by rw [eW]; exact (Below.refl _ _).alloc (Nat.le_refl _) _
  have hz : W2.heap.size = w.heap.size + 1 := by rw [eW, World.size_alloc]
  rw [← eW]
  clear eW
  obtain ⟨t0, t1, t2, t3, t4, t5, t6, tf⟩ := hA
  have g2 := cell_later hBB g0
  have HO2 := Lib.hid (own_later HO.out hBB)
  have hlk := HG.out W2 hBB
  have HLK := Lib.hid hlk
  have HBB := Lib.hid hBB
  have HZ := Lib.hid hz
  dsimp only at t1 t5 t6
  clear hlk hBB HG HO hz g0 p0 p1 p2 p3 p4 p5 p6
  go_upto_region 4 with (first | (at_lookup; refine wpList_lookup_wanted _ _ _ _ false rfl rfl rfl HLK.out rfl ?_) | fail)
  have HOd : Hid (W2.drew.ownsRow B 31 7 (.slice a0 n0 c0) l.length (rowT l)) := HO2.out
  have hn1 : (1 : Int) ≤ (n : Int) := by omega
  have hnc : (n : Int) ≤ (cap : Int) := by omega
  go_region_law (first
    | (refine step_append_tok W2.drew rfl (.tmp 31) (.tmp 33) rfl B (.slice a0 n0 c0) l ⟨29, s, ws⟩ rfl HOd.out rfl (by omega) (by have hz := HZ.out; show B ≤ W2.heap.size; omega) ?_
       intro a' c' w3 hown3 hgr3
       have HF := Lib.hid (And.intro hown3 hgr3)
       clear hown3 hgr3))
  go_wp2_with fail
  refine bodyPost_ret (v := .tuple #[.slice a' (l.length + 1) c', .slice (some ⟨T, j * 7 + 7, none⟩) (n - 1) (cap - 1), .bool true]) (by simp [results, Tryz.results33, go_sem]) rfl ?_
  have hz := HZ.out
  refine ⟨a', c', by rw [show (j + 1) * 7 = j * 7 + 7 by omega], HF.out.1, (HBB.out.mono hB).trans ?_⟩
  exact below_grown (w := W2) ((show Below B W2 W2.drew from (Below.refl B W2).drew).alloc (by show B ≤ W2.heap.size; omega) _) HF.out.2 HO2.out (by omega)

theorem famname_at (p : Value) (B T j n cap capT ad : Nat) (had : ad = j * 7) (l inp : List TK) (a0 : Option Addr) (n0 c0 : Nat) (s : ByteArray) (ws : Int) (w w0 : World) (h0 : Below B w0 w) (hT : T < B) (hrow : RowAt w0 T capT inp) (hj : inp[j]? = some ⟨29, s, ws⟩)
    (hg : GF.atKey (.string s.data.toList) (.lit (.bool false)) = .lit (.bool true)) (hM : MapAt w0 1 GF) (hBw : B = w0.heap.size) (hs : s.size ≤ maxLen) (hown : w.ownsRow B 31 7 (.slice a0 n0 c0) l.length (rowT l)) (hn : 1 ≤ n) (hc : n < cap) (hl : l.length ≤ 900000) :
    Calls Tryz.prog 33 #[p, .slice a0 n0 c0, .slice (some ⟨T, ad, none⟩) n cap] w (FamPost B T j n cap l ⟨29, s, ws⟩ w) := by
  subst had hBw
  exact famname_any p _ T j n cap capT l inp a0 n0 c0 s ws w (hrow.below h0 hT) hj hg (hM.below h0) hs hown h0.size hn hc hl

/-- The families' row: name, then comma and name. -/
def Fams (L : List TK) (j m : Nat) : Prop := ∀ i, i < m → (∃ s ws, L[j + 2 * i]? = some ⟨29, s, ws⟩ ∧ s.size ≤ 1000 ∧ GF.atKey (.string s.data.toList) (.lit (.bool false)) = .lit (.bool true)) ∧ (i + 1 < m → ∃ s ws, L[j + 2 * i + 1]? = some ⟨10, s, ws⟩)

def FamsPost (B j m : Nat) (L : List TK) (w : World) (e : Ending) (w' : World) : Prop := ∃ T' c', e = .returned (.tuple #[.slice (some ⟨T', 0, none⟩) (2 * m - 1) c', .bool true]) ∧ B ≤ T' ∧ c' ≤ maxLen ∧ RowAt w' T' c' ((L.drop j).take (2 * m - 1)) ∧ Below B w w'

theorem LL_succ {L : List TK} {j k : Nat} {t : TK} (h : L[j + k]? = some t) : (L.drop j).take (k + 1) = (L.drop j).take k ++ [t] := by
  rw [List.take_add_one, List.getElem?_drop, h]; rfl

set_option maxHeartbeats 4000000 in
set_option maxRecDepth 100000 in
theorem fams_any (p : Value) (T j m cap capT : Nat) (L : List TK) (w : World) (hrow : RowAt w T capT L) (hM : MapAt w 1 GF) (hf : Fams L j m) (hm : 1 ≤ m) (hm2 : m ≤ 4096) (hc : 2 * m - 1 < cap) (hL : L.length = j + (2 * m - 1)) :
    Calls Tryz.prog 23 #[p, .slice (some ⟨T, j * 7, none⟩) (2 * m - 1) cap] w (FamsPost w.heap.size j m L w) := by
  have HR := Lib.hid hrow
  have HM := Lib.hid hM
  have HF := Lib.hid hf
  have HL := Lib.hid hL
  clear hrow hM hf hL
  go_enter Tryz.func23, Tryz.ntmps23
  go_wp2_with fail
  obtain ⟨⟨s0, ws0, f0, f1, f2⟩, _⟩ := HF.out 0 hm
  have hLn : ∀ k, k ≤ 2 * m - 1 → ((L.drop j).take k).length = k := fun k hk => by rw [List.length_take, List.length_drop, HL.out]; omega
  have HLN := Lib.hid hLn
  have q0 := famname_any p w.heap.size T j (2 * m - 1) cap capT [] L none 0 0 s0 ws0 w HR.out f0 f2 HM.out (by unfold maxLen; omega) (World.ownsRow_nil _ _ _ _) (Nat.le_refl _) (by omega) hc (by simp)
  refine q0.mono ?_
  rintro e w1 ⟨a1, c1, rfl, o1, b1⟩
  have HO1 : Hid (w1.ownsRow w.heap.size 31 7 (.slice a1 1 c1) ((L.drop j).take 1).length (rowT ((L.drop j).take 1))) := by
    have := LL_succ (k := 0) f0
    rw [List.take_zero] at this
    rw [this]
    exact o1
  have HB1 := Lib.hid b1
  rw [show ([] : List TK).length + 1 = 1 from rfl]
  clear q0 o1 b1 hLn f0 f1 f2
  go_wp2_with fail
  go_loopw [6, 7, 8] (fun res rest ok wr => ∃ (i : Nat) (a : Option Addr) (c : Nat), i < m ∧ res = .slice a (2 * i + 1) c ∧ rest = .slice (some ⟨T, (j + (2 * i + 1)) * 7, none⟩) (2 * m - 1 - (2 * i + 1)) (cap - (2 * i + 1)) ∧ ok = .bool true ∧ Hid (wr.ownsRow w.heap.size 31 7 (.slice a (2 * i + 1) c) ((L.drop j).take (2 * i + 1)).length (rowT ((L.drop j).take (2 * i + 1)))) ∧ Hid (Below w.heap.size w wr)) (fun _ rest _ _ => match rest with | .slice _ n _ => n | _ => 0)
  case atStart => exact ⟨0, a1, c1, hm, rfl, rfl, rfl, HO1, HB1⟩
  case round =>
    obtain ⟨i, a, c, hi, rfl, rfl, rfl, hown, hb⟩ := hrel
    by_cases hlt : i + 1 < m
    · obtain ⟨_, hcm⟩ := HF.out i hi
      obtain ⟨sc, wc, ec⟩ := hcm hlt
      obtain ⟨⟨sn, wn, en, fs, fg⟩, _⟩ := HF.out (i + 1) hlt
      obtain ⟨q, eq⟩ : ∃ q, q = j + (2 * i + 1) := ⟨_, rfl⟩
      obtain ⟨r, er⟩ : ∃ r, r = 2 * m - 1 - (2 * i + 1) := ⟨_, rfl⟩
      obtain ⟨cc, ecc⟩ : ∃ cc, cc = cap - (2 * i + 1) := ⟨_, rfl⟩
      rw [show j + 2 * i + 1 = q by omega] at ec
      rw [show j + 2 * (i + 1) = q + 1 by omega] at en
      rw [← eq, ← er, ← ecc]
      obtain ⟨hql, hqe⟩ := List.getElem?_eq_some_iff.1 ec
      obtain ⟨p0, p1, p2, p3, p4, p5, p6⟩ := (HR.out.below hb.out HR.out.lt).cells q hql
      rw [hqe] at p1 p5 p6
      dsimp only at p1 p5 p6
      have hr0 : (0 : Int) < (r : Int) := by omega
      have hr1 : (1 : Int) ≤ (r : Int) := by omega
      have hrc : (r : Int) ≤ (cc : Int) := by omega
      have hcc1 : ¬ cc = 1 := by omega
      have hr2 : 2 ≤ r := by omega
      have hrc2 : r < cc := by omega
      have hTs := HR.out.lt
      have hbs := hb.out.size
      have EC := Lib.hid ec
      have EN := Lib.hid (And.intro en (And.intro fs fg))
      have EQ := Lib.hid (And.intro eq (And.intro er ecc))
      have hlen : ((L.drop j).take (2 * i + 1)).length = 2 * i + 1 := HLN.out _ (by omega)
      have HLE := Lib.hid hlen
      obtain ⟨l0, el0⟩ : ∃ l0, l0 = (L.drop j).take (2 * i + 1) := ⟨_, rfl⟩
      rw [← el0] at hown hlen
      have HL0 := Lib.hid el0
      have HOd : Hid (wr.drew.ownsRow w.heap.size 31 7 (.slice a (2 * i + 1) c) l0.length (rowT l0)) := hown
      clear hql hqe ec en fs fg eq er ecc el0 hown hcm HLE
      go_upto_region 5 with fail
      go_region_law (first
        | (refine step_append_tok wr.drew rfl (.tmp 30) (.tmp 34) rfl w.heap.size (.slice a (2 * i + 1) c) l0 ⟨10, sc, wc⟩ rfl HOd.out rfl (by omega) (by show w.heap.size ≤ wr.heap.size; omega) ?_
           intro a3 c3 w3 hown3 hgr3
           have HO3 := Lib.hid hown3
           have HB3 := Lib.hid (hb.out.trans (below_grown (w := wr) ((show Below w.heap.size wr wr.drew from (Below.refl _ wr).drew).alloc (by show w.heap.size ≤ wr.heap.size; omega) _) hgr3 HOd.out (by omega)))
           clear hown3 hgr3)
        | (go_simp
           refine (famname_at p w.heap.size T (q + 1) (r - 1) (cc - 1) capT (q * 7 + 7) (by omega) (l0 ++ [⟨10, sc, wc⟩]) L a3 (2 * i + 1 + 1) c3 sn wn w3 w HB3.out HR.out.lt HR.out EN.out.1 EN.out.2.2 HM.out rfl (by unfold maxLen; have := EN.out.2.1; omega) (by have h := HO3.out; rw [hlen] at h; exact h) (by omega) (by omega) (by rw [List.length_append, hlen]; show _ + 1 ≤ _; omega)).mono ?_
           rintro e w5 ⟨a5, c5, rfl, o5, b5⟩
           have HF5 := Lib.hid (And.intro o5 b5)
           clear o5 b5))
      go_wp2_with fail
      have e1 : (l0 ++ [(⟨10, sc, wc⟩ : TK)]).length + 1 = 2 * (i + 1) + 1 := by rw [List.length_append, hlen]; rfl
      refine ⟨⟨i + 1, a5, c5, hlt, by rw [show 2 * i + 1 + 1 + 1 = 2 * (i + 1) + 1 by omega], ?_, rfl, ?_, HB3.out.trans HF5.out.2⟩, ?_⟩
      · have := EQ.out
        rw [show (j + (2 * (i + 1) + 1)) * 7 = (q + 1 + 1) * 7 by omega, show 2 * m - 1 - (2 * (i + 1) + 1) = r - 1 - 1 by omega, show cap - (2 * (i + 1) + 1) = cc - 1 - 1 by omega]
      · have h1 := LL_succ (L := L) (j := j) (k := 2 * i + 1) (t := ⟨10, sc, wc⟩) (by rw [← EQ.out.1]; exact EC.out)
        have h2 := LL_succ (L := L) (j := j) (k := 2 * i + 1 + 1) (t := ⟨29, sn, wn⟩) (by rw [show j + (2 * i + 1 + 1) = q + 1 by have := EQ.out.1; omega]; exact EN.out.1)
        rw [← HL0.out] at h1
        rw [h1] at h2
        show World.ownsRow _ _ _ _ _ _ _
        rw [show 2 * (i + 1) + 1 = 2 * i + 1 + 1 + 1 by omega, h2]
        have h3 := HF5.out.1
        rw [e1] at h3
        exact h3
      · show r - 1 - 1 < r
        omega
    · obtain rfl : i = m - 1 := by omega
      have e0 : 2 * m - 1 - (2 * (m - 1) + 1) = 0 := by omega
      have e1 : 2 * (m - 1) + 1 = 2 * m - 1 := by omega
      rw [e0]
      rw [e1] at hown ⊢
      go_wp2_with fail
      have hll : ((L.drop j).take (2 * m - 1)).length = 2 * m - 1 := HLN.out _ (Nat.le_refl _)
      obtain ⟨T', c', ev, hT', hc', hr'⟩ := RowAt.of_own (l := (L.drop j).take (2 * m - 1)) hown.out (by rw [hll]; omega)
      rw [hll] at ev
      injection ev with ea _ ec
      subst ea ec
      exact bodyPost_ret (v := .tuple #[.slice (some ⟨T', 0, none⟩) (2 * m - 1) c, .bool true]) (by simp [results, Tryz.results23, go_sem]) rfl ⟨T', c, rfl, hT', hc', hr', hb.out⟩
end Go.Proofs.YtoeahdefgblmoaaGreatDoor
