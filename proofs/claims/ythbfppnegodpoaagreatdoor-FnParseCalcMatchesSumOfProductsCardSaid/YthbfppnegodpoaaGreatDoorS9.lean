/-
  zzSumModel on a list that is no refused one, walked.
-/
import Derived.Test.YthbfppnegodpoaaGreatDoorS8
namespace Go.Proofs.YthbfppnegodpoaaGreatDoor
open Go.RowKit Go.Deep Go.PlainAid

theorem rest_len (t0 : CT) (P : List (CT × CT)) (c k : Nat) (h : (terms t0 P 0).drop c = rest t0 P k) (hk : k ≤ P.length) : c < (terms t0 P 0).length ∧ c ≤ P.length := by
  have h1 := terms_len t0 P 0 (Nat.zero_le _)
  have h2 := congrArg List.length h
  have h3 : 0 < (terms t0 P k).length := by rw [terms]; simp
  unfold rest at h2
  rw [if_pos hk, List.length_drop] at h2
  omega

theorem rest_step {t0 : CT} {P : List (CT × CT)} {t : Nat → CT} {op : Nat → Int} (hT : Told t0 P t op) (c k : Nat) (h : (terms t0 P 0).drop c = rest t0 P k) (hk : k ≤ P.length) :
    (terms t0 P 0).getD c dT = sgnN op k (grpN t op k (runLen P k)) ∧ (terms t0 P 0).drop (c + 1) = rest t0 P (k + runLen P k + 1) := by
  have h1 := rest_len t0 P c k h hk
  rw [rest_cons hT k hk, List.drop_eq_getElem_cons h1.1, List.cons.injEq] at h
  refine ⟨?_, h.2⟩
  rw [List.getD_eq_getElem?_getD, List.getElem?_eq_getElem h1.1, Option.getD_some]
  exact h.1

theorem row_add {wr w2 W3 A0 : World} {K N c : Nat} {ts : Nat → CT} {m : MV} (hk : Kids wr K N ts c) (hb2 : Below wr.heap.size wr w2) (hb : Below K A0 wr) (h3 : Below w2.heap.size w2 W3) (hm : Mir W3 (wr.heap.size ≤ ·) m (ts c)) :
    Kids (put8 W3 K (c * 8) m) K N ts (c + 1) ∧ Below K A0 (put8 W3 K (c * 8) m) := by
  have h4 := hb2.trans (h3.mono hb2.size)
  exact ⟨hk.step h4 hm, put8_below (hb.trans (h4.mono (Nat.le_of_lt hk.lt))) _ _ _ (Nat.le_refl _)⟩

theorem row_add2 {wr w2 A0 : World} {K N c : Nat} {ts : Nat → CT} {m : MV} (hk : Kids wr K N ts c) (hb2 : Below wr.heap.size wr w2) (hb : Below K A0 wr) (hm : Mir w2 (wr.heap.size ≤ ·) m (ts c)) (o1 o2 : Obj) :
    Kids (((put8 w2 K (c * 8) m).alloc o1).alloc o2) K N ts (c + 1) ∧ Below K A0 (((put8 w2 K (c * 8) m).alloc o1).alloc o2) := by
  have h3 : Below w2.heap.size w2 ((w2.alloc o1).alloc o2) := ((Below.refl _ _).alloc (Nat.le_refl _) _).alloc (by rw [World.size_alloc]; omega) _
  have hK := hk.lt
  have hz := hb2.size
  have h := row_add hk hb2 hb h3 (hm.keep (Keeps.below h3))
  rw [put8_alloc _ _ _ _ _ (by rw [World.size_alloc]; omega), put8_alloc _ _ _ _ _ (by omega)] at h
  exact h

theorem row_add3 {wr w2 A0 : World} {K N c : Nat} {ts : Nat → CT} {tag : Int} {un : ByteArray} {nm : Nat} {kd : Int} {tx : ByteArray} {ws : Int} {bad : Bool} {a : Option Addr} {kn kc : Nat} {t : CT} (hk : Kids wr K N ts c) (hb2 : Below wr.heap.size wr w2) (hb : Below K A0 wr)
    (hm : Mir w2 (wr.heap.size ≤ ·) ⟨tag, un, nm, kd, tx, ws, bad, .slice a kn kc⟩ t) (et : ts c = .neg t) (o1 o3 : Obj) :
    Kids ((((put8 w2 K (c * 8) ⟨5, ⟨#[]⟩, 0, 0, ⟨#[]⟩, 0, false, .slice (some ⟨w2.heap.size + 1, 0, none⟩) 1 1⟩).alloc o1).alloc (.cells #[.int .i64 tag, .string un, .float .f64 nm, .int .u8 kd, .string tx, .int .u8 ws, .bool bad, .slice a kn kc] 48)).alloc o3) K N ts (c + 1) ∧
      Below K A0 ((((put8 w2 K (c * 8) ⟨5, ⟨#[]⟩, 0, 0, ⟨#[]⟩, 0, false, .slice (some ⟨w2.heap.size + 1, 0, none⟩) 1 1⟩).alloc o1).alloc (.cells #[.int .i64 tag, .string un, .float .f64 nm, .int .u8 kd, .string tx, .int .u8 ws, .bool bad, .slice a kn kc] 48)).alloc o3) := by
  have h3 : Below w2.heap.size w2 (((w2.alloc o1).alloc (.cells #[.int .i64 tag, .string un, .float .f64 nm, .int .u8 kd, .string tx, .int .u8 ws, .bool bad, .slice a kn kc] 48)).alloc o3) := (((Below.refl _ _).alloc (Nat.le_refl _) _).alloc (by rw [World.size_alloc]; omega) _).alloc (by rw [World.size_alloc, World.size_alloc]; omega) _
  have hK := hk.lt
  have hz := hb2.size
  have hmn : Mir (((w2.alloc o1).alloc (.cells #[.int .i64 tag, .string un, .float .f64 nm, .int .u8 kd, .string tx, .int .u8 ws, .bool bad, .slice a kn kc] 48)).alloc o3) (wr.heap.size ≤ ·) ⟨5, ⟨#[]⟩, 0, 0, ⟨#[]⟩, 0, false, .slice (some ⟨w2.heap.size + 1, 0, none⟩) 1 1⟩ (ts c) := by
    rw [et]
    refine .neg (w2.heap.size + 1) 1 ⟨tag, un, nm, kd, tx, ws, bad, .slice a kn kc⟩ t (by omega) ?_ (hm.keep (Keeps.below h3))
    exact ⟨by simp [go_sem], by simp [go_sem], by simp [go_sem], by simp [go_sem], by simp [go_sem], by simp [go_sem], by simp [go_sem], by simp [go_sem]⟩
  have h := row_add hk hb2 hb h3 hmn
  rw [put8_alloc _ _ _ _ _ (by rw [World.size_alloc, World.size_alloc]; omega), put8_alloc _ _ _ _ _ (by rw [World.size_alloc]; omega), put8_alloc _ _ _ _ _ (by omega)] at h
  exact h

/-- The sum of the terms, or the lone term. -/
def sumOf (l : List CT) : CT := if l.length = 1 then l.getD 0 dT else .sum l

set_option maxHeartbeats 16000000 in
set_option maxRecDepth 100000 in
theorem sum_yes (W : World) (T L R n m : Nat) (tk : Nat → TK) (mf : Nat → MV) (t : Nat → CT) (op : Nat → Int) (t0 : CT) (P : List (CT × CT)) (hn : n ≤ 4096) (hm : n = 2 * m + 1) (hP : P.length = m) (hT : Told t0 P t op) (ht : Toks W T n tk)
    (hl : ∀ j, 2 * j < n → MVAt W L (2 * j * 8) (mf (2 * j))) (hmi : ∀ j, 2 * j < n → ∀ W D, Mir W D (mf (2 * j)) (t (2 * j)))
    (ho : ∀ i, i < n → W.cell? ⟨R, i, none⟩ = some (.int .i64 (op i))) (hok : ∀ j, j < m → okAt tk op j) :
    Calls Tryz.prog 29 #[.slice (some ⟨T, 0, none⟩) n n, .slice (some ⟨L, 0, none⟩) n n, .slice (some ⟨R, 0, none⟩) n n] W (Tree W (some (sumOf (terms t0 P 0)))) := by
  have htm : ((n : Int)).tmod 2 = 1 := by rw [Int.tmod_eq_emod_of_nonneg (by omega)]; omega
  obtain ⟨N, eN⟩ : ∃ N, N = m + 1 := ⟨_, rfl⟩
  have hq1 : ((n : Int)) / 2 + 1 = (N : Int) := by omega
  have hq2 : ((n : Int)).tdiv 2 + 1 = (N : Int) := by rw [Int.tdiv_eq_ediv_of_nonneg (by omega)]; exact hq1
  have hmk := make_room N (by omega)
  obtain ⟨ts, ets⟩ : ∃ ts : Nat → CT, ts = fun j => (terms t0 P 0).getD j dT := ⟨_, rfl⟩
  have hk0 := kids_made (W.alloc (.cells zero48 48)) N ts
  have hsz1 : (W.alloc (.cells zero48 48)).heap.size = W.heap.size + 1 := World.size_alloc _ _
  rw [hsz1] at hk0
  have HK0 := Lib.hid hk0
  have HM := Lib.hid (And.intro hm (And.intro hP (And.intro eN ets)))
  have HTD := Lib.hid hT
  have HT := Lib.hid (ht.below ((Below.refl W.heap.size W).alloc (Nat.le_refl _) (.cells #[.int .i64 0, .string ⟨#[]⟩, .float .f64 0, .int .u8 0, .string ⟨#[]⟩, .int .u8 0, .bool false, .slice none 0 0] 48)))
  have HO := Lib.hid ho
  have HL := Lib.hid (And.intro hl hmi)
  have HOK := Lib.hid hok
  have hN2 : N ≤ 4096 := by omega
  have hN1 : 0 < N := by omega
  clear ht ho hok hm hl hmi hT hP eN ets hk0 hsz1
  unfold zero48 at hmk
  go_enter Tryz.func29, Tryz.ntmps29
  go_wp2_with fail
  go_loopw [8] (fun iv wr => ∃ j y : Nat, iv = .int .i64 y ∧ Hid (y = 2 * j + 1 ∧ j ≤ m) ∧ wr = W.alloc (.cells #[.int .i64 0, .string ⟨#[]⟩, .float .f64 0, .int .u8 0, .string ⟨#[]⟩, .int .u8 0, .bool false, .slice none 0 0] 48)) (fun i _ => n + 2 - (intOf i).toNat)
  case atStart => exact ⟨0, 1, rfl, Lib.hid ⟨rfl, Nat.zero_le _⟩, rfl⟩
  case round =>
    obtain ⟨j, y, rfl, hj, rfl⟩ := hrel
    by_cases hjm : j < m
    · have hyn : (y : Int) < (n : Int) := by have h1 := hj.out.1; have h2 := HM.out.1; omega
      have hyn' : y + 1 < n := by have h1 := hj.out.1; have h2 := HM.out.1; omega
      have hy0 : 0 < y := by have h1 := hj.out.1; omega
      have co := HO.out y (by omega)
      have hR : R < W.heap.size := World.block_lt_of_cell? _ _ co
      have hsp := Lib.hid (spaced_any _ T n n y tk hn hy0 hyn' HT.out)
      have hoj := HOK.out j hjm
      unfold okAt at hoj
      rw [← hj.out.1] at hoj
      obtain ⟨v, ev⟩ : ∃ v, v = op y := ⟨_, rfl⟩
      obtain ⟨b, eb⟩ : ∃ b, b = spaced tk y := ⟨_, rfl⟩
      rw [← ev] at co hoj
      rw [← eb] at hsp hoj
      clear ev eb hmk
      have hv0' : (v == 0) = false := beq_eq_false_iff_ne.2 hoj.1
      by_cases hv2 : v ≤ 2
      · obtain rfl : b = true := hoj.2 hv2
        clear hoj
        go_wp2_with fail
        refine hsp.out.mono ?_
        rintro e w' ⟨rfl, rfl⟩
        go_wp2_with fail
        go_roundw
        case rel => exact ⟨j + 1, y + 2, by go_num, Lib.hid ⟨by have := hj.out.1; omega, hjm⟩, trivial⟩
        case measure => simp [intOf]; omega
      · clear hoj
        go_wp2_with fail
        go_roundw
        case rel => exact ⟨j + 1, y + 2, by go_num, Lib.hid ⟨by have := hj.out.1; omega, hjm⟩, trivial⟩
        case measure => simp [intOf]; omega
    · have hyn : ¬ (y : Int) < (n : Int) := by have h1 := hj.out.1; have h2 := HM.out.1; omega
      clear HOK HT
      go_wp2_with fail
      go_loopw [9, 10] (fun tv sv wr => ∃ c k s : Nat, c ≤ N ∧ tv = .slice (some ⟨W.heap.size + 1, 0, none⟩) c N ∧ sv = .int .i64 s ∧ Hid (s = 2 * k ∧ k ≤ m + 1 ∧ (terms t0 P 0).drop c = rest t0 P k ∧ c ≤ (terms t0 P 0).length) ∧ Hid (Kids wr (W.heap.size + 1) N ts c) ∧ Hid (Below (W.heap.size + 1) (W.alloc (.cells zero48 48)) wr)) (fun _ s _ => n + 2 - (intOf s).toNat)
      case atStart =>
        refine ⟨0, 0, 0, Nat.zero_le _, rfl, rfl, Lib.hid ⟨rfl, Nat.zero_le _, ?_, Nat.zero_le _⟩, HK0, Lib.hid ((Below.refl _ _).alloc (by simp only [World.size_alloc]; omega) _)⟩
        unfold rest
        rw [if_pos (Nat.zero_le _)]
        rfl
      case round =>
        obtain ⟨c, k, s, hc, rfl, rfl, hs, hk, hb⟩ := hrel
        have hbW : Hid (Below W.heap.size W wr) := Lib.hid (((Below.refl _ _).alloc (Nat.le_refl _) _).trans (hb.out.mono (Nat.le_succ _)))
        have hbz := hbW.out.size
        have hKl := hk.out.lt
        have hm1 := HM.out.1
        have hs1 := hs.out.1
        by_cases hkm : k ≤ m
        · have hsn : (s : Int) < (n : Int) := by omega
          have hPm := HM.out.2.1
          have hstep := rest_step HTD.out c k hs.out.2.2.1 (by omega)
          have hlen := rest_len _ _ c k hs.out.2.2.1 (by omega)
          have hcN : c < N := by have := HM.out.2.2.1; omega
          go_wp2_with fail
          obtain ⟨Wa, eWa⟩ : ∃ Wa, Wa = wr := ⟨_, rfl⟩
          subst eWa
          go_loopw [11] (fun zv wr => ∃ q z : Nat, zv = .int .i64 z ∧ Hid (z = s + 2 * q ∧ k + q ≤ m ∧ ∀ i, i < q → mulOp (P.getD (k + i) dP).1 = true) ∧ wr = Wa) (fun z _ => n + 2 - (intOf z).toNat)
          case atStart => exact ⟨0, s, rfl, Lib.hid ⟨rfl, by omega, fun i hi => absurd hi (Nat.not_lt_zero _)⟩, rfl⟩
          case round =>
            obtain ⟨q, z, rfl, hq, rfl⟩ := hrel
            have hz1 := hq.out.1
            have hqm := hq.out.2.1
            obtain ⟨x, ex⟩ : ∃ x, x = z + 1 := ⟨_, rfl⟩
            have hzx : (z : Int) + 1 = (x : Int) := by omega
            have hxb : x ≤ 4097 := by omega
            have hzb : z ≤ 4096 := by omega
            have hsb : s ≤ 4096 := by omega
            by_cases hgo : x < n ∧ 3 ≤ op x
            · obtain ⟨hg1, hg3⟩ := hgo
              have hxn : (x : Int) < (n : Int) := by omega
              have co := cell_later hbW.out (HO.out x hg1)
              have hmu : mulOp (P.getD (k + q) dP).1 = true := by
                rw [HTD.out.mul (k + q) (by omega), show 2 * (k + q) + 1 = x by omega]
                exact decide_eq_true hg3
              obtain ⟨v, ev⟩ : ∃ v, v = op x := ⟨_, rfl⟩
              rw [← ev] at co hg3
              have HMU := Lib.hid hmu
              have HX := Lib.hid (And.intro ex (And.intro hz1 hqm))
              clear ev hmu hstep hlen hm1 hs1 hPm hz1 hqm ex
              go_wp2_with fail
              go_roundw
              case rel => exact ⟨q + 1, z + 2, by go_num, Lib.hid ⟨by have := HX.out; omega, by have h1 := HX.out; have h2 := HM.out.1; have h3 := hs.out.1; omega, fun i hi => by
                rcases Nat.lt_or_ge i q with h | h
                · exact hq.out.2.2 i h
                · obtain rfl : i = q := by omega
                  exact HMU.out⟩, trivial⟩
              case measure => simp [intOf]; omega
            · have hrun : runLen P k = q := runLen_is P k q hq.out.2.2 (by omega) (by
                by_cases hx : x < n
                · right
                  rw [HTD.out.mul (k + q) (by omega), show 2 * (k + q) + 1 = x by omega]
                  exact decide_eq_false (fun h => hgo ⟨hx, h⟩)
                · left; omega)
              have hcase : (¬ (x : Int) < (n : Int)) ∨ ((x : Int) < (n : Int) ∧ ∃ v, wr.cell? ⟨R, x, none⟩ = some (.int .i64 v) ∧ ¬ 3 ≤ v) := by
                by_cases hx : x < n
                · exact .inr ⟨by omega, op x, cell_later hbW.out (HO.out x hx), fun h => hgo ⟨hx, h⟩⟩
                · exact .inl (by omega)
              have H39 := Lib.hid (prodm_any wr L R n k q mf t op hn (by omega) (fun j hj => (HL.out.1 j hj).keep (D := fun _ => True) trivial (Keeps.below hbW.out)) HL.out.2 (fun i hi => cell_later hbW.out (HO.out i hi)) s z hs1 hz1)
              have hsg : (¬ (0 : Int) < (s : Int) ∧ ∀ g, sgnN op k g = g) ∨ ((0 : Int) < (s : Int) ∧ ∃ (p : Nat) (v : Int), (s : Int) - 1 = (p : Int) ∧ (p : Int) < (n : Int) ∧ wr.cell? ⟨R, p, none⟩ = some (.int .i64 v) ∧ (((v == 2) = false ∧ ∀ g, sgnN op k g = g) ∨ (v = 2 ∧ ∀ g, sgnN op k g = .neg g))) := by
                unfold sgnN
                by_cases h0 : 0 < k
                · refine .inr ⟨by omega, 2 * k - 1, op (2 * k - 1), by omega, by omega, cell_later hbW.out (HO.out _ (by omega)), ?_⟩
                  by_cases h2 : op (2 * k - 1) = 2
                  · exact .inr ⟨h2, fun g => if_pos ⟨h0, h2⟩⟩
                  · exact .inl ⟨beq_eq_false_iff_ne.2 h2, fun g => if_neg (fun h => h2 h.2)⟩
                · exact .inl ⟨by omega, fun g => if_neg (fun h => h0 h.1)⟩
              have hsz : (s : Int) ≤ (z : Int) := by omega
              have HST := Lib.hid (And.intro hstep (And.intro hlen (And.intro hrun (And.intro hz1 hqm))))
              have hets : ts c = sgnN op k (grpN t op k q) := by
                rw [HM.out.2.2.2, ← hrun]
                exact hstep.1
              clear hstep hlen hrun hz1 hqm hgo hq ex hm1 hs1 hPm HL HO
              rcases hcase with hx | ⟨hx, v, co, hv⟩
              all_goals
                go_wp2_with fail
                refine H39.out.mono ?_
                rintro e w2 ⟨g, rfl, hb2, hg⟩
                obtain ⟨ka, kn, kc, ek⟩ := hg.kids
                obtain ⟨tag, un, nm, kd, tx, ws, bad, kids⟩ := g
                simp only at ek
                subst ek
                have hmv : (MV.val ⟨tag, un, nm, kd, tx, ws, bad, .slice ka kn kc⟩) = .agg #[.int .i64 tag, .string un, .float .f64 nm, .int .u8 kd, .string tx, .int .u8 ws, .bool bad, .slice ka kn kc] := rfl
                have hz2 := hb2.size
                have hk2 := hk.out.below hb2
                obtain ⟨x0, k0⟩ := hk2.isCell (c * 8) (by omega)
                have z0 := hk2.fz (c * 8)
                obtain ⟨x1, k1⟩ := hk2.isCell (c * 8 + 1) (by omega)
                have z1 := hk2.fz (c * 8 + 1)
                obtain ⟨x2, k2⟩ := hk2.isCell (c * 8 + 2) (by omega)
                have z2 := hk2.fz (c * 8 + 2)
                obtain ⟨x3, k3⟩ := hk2.isCell (c * 8 + 3) (by omega)
                have z3 := hk2.fz (c * 8 + 3)
                obtain ⟨x4, k4⟩ := hk2.isCell (c * 8 + 4) (by omega)
                have z4 := hk2.fz (c * 8 + 4)
                obtain ⟨x5, k5⟩ := hk2.isCell (c * 8 + 5) (by omega)
                have z5 := hk2.fz (c * 8 + 5)
                obtain ⟨x6, k6⟩ := hk2.isCell (c * 8 + 6) (by omega)
                have z6 := hk2.fz (c * 8 + 6)
                obtain ⟨x7, k7⟩ := hk2.isCell (c * 8 + 7) (by omega)
                have z7 := hk2.fz (c * 8 + 7)
                have e1 : W.heap.size + 1 < w2.heap.size := by omega
                have e2 : W.heap.size + 1 < w2.heap.size + 1 := by omega
                have e3 : W.heap.size + 1 < w2.heap.size + 1 + 1 := by omega
                have HK2 := Lib.hid (And.intro hk.out (And.intro hb2 hg))
                have HE := Lib.hid hets
                clear hk2 hg hets
                rcases hsg with ⟨hs0, hsg⟩ | ⟨hs0, p, v2, hp, hpn, cp, ⟨hv2, hsg⟩ | ⟨rfl, hsg⟩⟩
                · have HSG := Lib.hid hsg
                  clear hb2 hsg
                  go_wp2_with fail
                  go_roundw
                  case rel =>
                    have hfin := row_add2 HK2.out.1 HK2.out.2.1 hb.out (by rw [HE.out, HSG.out]; exact HK2.out.2.2) (.cells #[.int .i64 tag, .string un, .float .f64 nm, .int .u8 kd, .string tx, .int .u8 ws, .bool bad, .slice ka kn kc] 48) (.cells #[.int .i64 tag, .string un, .float .f64 nm, .int .u8 kd, .string tx, .int .u8 ws, .bool bad, .slice ka kn kc] 48)
                    have h1 := HST.out
                    refine ⟨c + 1, k + q + 1, z + 2, by omega, rfl, by go_num, Lib.hid ⟨by have := hs.out.1; omega, by omega, ?_, by omega⟩, Lib.hid hfin.1, Lib.hid hfin.2⟩
                    rw [h1.1.2, h1.2.2.1]
                  case measure => simp [intOf]; omega
                · have cp2 := cell_later hb2 cp
                  have hR2 : R < w2.heap.size := World.block_lt_of_cell? _ _ cp2
                  have HSG := Lib.hid hsg
                  clear hb2 hsg
                  go_wp2_with fail
                  go_roundw
                  case rel =>
                    have hfin := row_add2 HK2.out.1 HK2.out.2.1 hb.out (by rw [HE.out, HSG.out]; exact HK2.out.2.2) (.cells #[.int .i64 tag, .string un, .float .f64 nm, .int .u8 kd, .string tx, .int .u8 ws, .bool bad, .slice ka kn kc] 48) (.cells #[.int .i64 tag, .string un, .float .f64 nm, .int .u8 kd, .string tx, .int .u8 ws, .bool bad, .slice ka kn kc] 48)
                    have h1 := HST.out
                    refine ⟨c + 1, k + q + 1, z + 2, by omega, rfl, by go_num, Lib.hid ⟨by have := hs.out.1; omega, by omega, ?_, by omega⟩, Lib.hid hfin.1, Lib.hid hfin.2⟩
                    rw [h1.1.2, h1.2.2.1]
                  case measure => simp [intOf]; omega
                · have cp2 := cell_later hb2 cp
                  have hR2 : R < w2.heap.size := World.block_lt_of_cell? _ _ cp2
                  have HSG := Lib.hid hsg
                  clear hb2 hsg
                  go_wp2_with fail
                  go_roundw
                  case rel =>
                    have hfin := row_add3 HK2.out.1 HK2.out.2.1 hb.out HK2.out.2.2 (by rw [HE.out, HSG.out]) (.cells #[.int .i64 5, .string ⟨#[]⟩, .float .f64 0, .int .u8 0, .string ⟨#[]⟩, .int .u8 0, .bool false, .slice (some ⟨w2.heap.size + 1, 0, none⟩) 1 1] 48) (.cells #[.int .i64 5, .string ⟨#[]⟩, .float .f64 0, .int .u8 0, .string ⟨#[]⟩, .int .u8 0, .bool false, .slice (some ⟨w2.heap.size + 1, 0, none⟩) 1 1] 48)
                    have h1 := HST.out
                    refine ⟨c + 1, k + q + 1, z + 2, by omega, rfl, by go_num, Lib.hid ⟨by have := hs.out.1; omega, by omega, ?_, by omega⟩, Lib.hid hfin.1, Lib.hid hfin.2⟩
                    rw [h1.1.2, h1.2.2.1]
                  case measure => simp [intOf]; omega
        · have hk1 : k = m + 1 := by have := hs.out.2.1; omega
          have hsn : ¬ (s : Int) < (n : Int) := by omega
          have hc1 : c = (terms t0 P 0).length := by
            have h1 := congrArg List.length hs.out.2.2.1
            have h2 := hs.out.2.2.2
            have h3 := HM.out.2.1
            unfold rest at h1
            rw [if_neg (by omega), List.length_drop, List.length_nil] at h1
            omega
          obtain ⟨ms, hms⟩ := hk.out.at hc
          have hcz : Below (W.alloc (.cells zero48 48)).heap.size (W.alloc (.cells zero48 48)) wr := by rw [World.size_alloc]; exact hb.out
          unfold zero48 at hcz
          have r0 : wr.cell? ⟨W.heap.size, 0, none⟩ = some (.int .i64 0) := cell_later hcz (by simp [go_sem])
          have r1 : wr.cell? ⟨W.heap.size, 1, none⟩ = some (.string ⟨#[]⟩) := cell_later hcz (by simp [go_sem])
          have r2 : wr.cell? ⟨W.heap.size, 2, none⟩ = some (.float .f64 0) := cell_later hcz (by simp [go_sem])
          have r3 : wr.cell? ⟨W.heap.size, 3, none⟩ = some (.int .u8 0) := cell_later hcz (by simp [go_sem])
          have r4 : wr.cell? ⟨W.heap.size, 4, none⟩ = some (.string ⟨#[]⟩) := cell_later hcz (by simp [go_sem])
          have r5 : wr.cell? ⟨W.heap.size, 5, none⟩ = some (.int .u8 0) := cell_later hcz (by simp [go_sem])
          have r6 : wr.cell? ⟨W.heap.size, 6, none⟩ = some (.bool false) := cell_later hcz (by simp [go_sem])
          have r7 : wr.cell? ⟨W.heap.size, 7, none⟩ = some (.slice none 0 0) := cell_later hcz (by simp [go_sem])
          have rf : ∀ i, wr.frozen? ⟨W.heap.size, i, none⟩ = false := fun i => (Below.frozen hcz (p := ⟨W.heap.size, i, none⟩) (by rw [World.size_alloc]; show W.heap.size < _; omega)).trans (by simp [go_sem])
          have rf0 := rf 0
          have rf1 := rf 1
          have rf2 := rf 2
          have rf3 := rf 3
          have rf4 := rf 4
          have rf5 := rf 5
          have rf6 := rf 6
          have rf7 := rf 7
          have hts := HM.out.2.2.2
          have HC1 := Lib.hid hc1
          clear rf hcz hm1 hs1 HO HL HTD
          by_cases h1 : c = 1
          · subst h1
            obtain ⟨g0, g1⟩ := hms 0 (by omega)
            have e0 : ts 0 = sumOf (terms t0 P 0) := by rw [hts]; unfold sumOf; rw [if_pos hc1.symm]
            rw [e0] at g1
            rw [Nat.zero_mul] at g0
            obtain ⟨ka, kn, kc, ek⟩ := g1.kids
            generalize ms 0 = mm at g0 g1 ek
            obtain ⟨tag, un, nm, kd, tx, ws, bad, kids⟩ := mm
            simp only at ek
            subst ek
            obtain ⟨q0, q1, q2, q3, q4, q5, q6, q7⟩ := g0
            simp only [Nat.zero_add] at q0 q1 q2 q3 q4 q5 q6 q7
            have hf := conv_fin hbW.out (g1.weaken (D' := (W.heap.size < ·)) (fun b _ h => by omega))
            unfold put8 at hf
            simp only [Nat.zero_add] at hf
            have HF := Lib.hid hf
            clear hf g1 e0 hts hms hc1
            go_wp2_with fail
            refine bodyPost_ret (v := MV.val ⟨tag, un, nm, kd, tx, ws, bad, .slice ka kn kc⟩) (by simp [results, Tryz.results29, go_sem, MV.val, r0, r1, r2, r3, r4, r5, r6, r7]) rfl ⟨_, rfl, HF.out.2, HF.out.1⟩
          · have hcb : ((c : Int) == 1) = false := beq_eq_false_iff_ne.2 (by omega)
            have hm : Mir wr (W.heap.size < ·) ⟨3, ⟨#[]⟩, 0, 0, ⟨#[]⟩, 0, false, .slice (some ⟨W.heap.size + 1, 0, none⟩) c N⟩ (sumOf (terms t0 P 0)) := by
              have hc0 : 0 < (terms t0 P 0).length := by rw [terms]; simp
              unfold sumOf
              rw [if_neg (by omega)]
              have h := Mir.sum (W := wr) (D := (W.heap.size < ·)) (W.heap.size + 1) N (terms t0 P 0) ms (by omega) (Nat.lt_succ_self _) (fun j hj => (hms j (by omega)).1) (fun j hj => by
                have e : (terms t0 P 0).getD j dT = ts j := by rw [hts]
                rw [e]
                exact (hms j (by omega)).2.weaken (fun b _ h => by omega))
              rw [← hc1] at h
              exact h
            have hf := conv_fin hbW.out hm
            unfold put8 at hf
            simp only [Nat.zero_add] at hf
            have HF := Lib.hid hf
            clear hf hm hts hms hc1
            go_wp2_with fail
            refine bodyPost_ret (v := MV.val ⟨3, ⟨#[]⟩, 0, 0, ⟨#[]⟩, 0, false, .slice (some ⟨W.heap.size + 1, 0, none⟩) c N⟩) (by simp [results, Tryz.results29, go_sem, MV.val, r0, r1, r2, r3, r4, r5, r6, r7]) rfl ⟨_, rfl, HF.out.2, HF.out.1⟩
end Go.Proofs.YthbfppnegodpoaaGreatDoor
