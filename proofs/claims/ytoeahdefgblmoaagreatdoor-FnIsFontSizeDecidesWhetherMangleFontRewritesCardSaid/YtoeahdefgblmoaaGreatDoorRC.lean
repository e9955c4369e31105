/-
  rightShift.
-/
import Derived.Test.YtoeahdefgblmoaaGreatDoorRB
import Derived.Deep.DeepCutAuto
import Derived.Deep.CutBlock
namespace Go.Proofs.YtoeahdefgblmoaaGreatDoor
open Go.RowKit Go.Deep Go.PlainAid Go.Maps Go.Sort

/-- What rightShift leaves. -/
def RightPost (b : Nat) (G : Nat → Int) (dp : Int) (ng : Bool) (w : World) (e : Ending) (w' : World) : Prop :=
  e = .returned (.tuple #[]) ∧ ∃ G' nd' dp' tr', 1 ≤ nd' ∧ Good G' nd' ∧ DecAt w' b G' nd' dp' ng tr' ∧ Below b w w' ∧ dp - 20 ≤ dp' ∧ dp' ≤ dp ∧ (dp' = dp → G' 0 < G 0)

/-- The first digits, read as a number. -/
structure Lead (G : Nat → Int) (k r n : Nat) : Prop where
  lt : n < 10 * 2 ^ k
  ge : 10 ^ (r - 1) ≤ n
  pos : 1 ≤ r
  one : r = 1 → (n : Int) = G 0 - 48

theorem Lead.first {G : Nat → Int} {nd k : Nat} (h : Good G nd) (hn : 1 ≤ nd) (x : Nat) (hx : (x : Int) = G 0 - 48) : Lead G k 1 x := by
  have h1 := h.top hn
  have h2 := h.hi 0 hn
  have h3 : 1 ≤ 2 ^ k := Nat.pow_pos (by decide)
  exact ⟨by omega, by show 1 ≤ x; omega, by omega, fun _ => hx⟩
theorem Lead.next {G : Nat → Int} {k r n c : Nat} (h : Lead G k r n) (hlt : n < 2 ^ k) (hc : c ≤ 9) : Lead G k (r + 1) (n * 10 + c) := by
  obtain ⟨h1, h2, h3, h4⟩ := h
  refine ⟨by omega, ?_, by omega, fun e => by omega⟩
  rw [show r + 1 - 1 = (r - 1) + 1 by omega, Nat.pow_succ]
  omega
theorem Lead.small {G : Nat → Int} {k r n : Nat} (h : Lead G k r n) (hk : k ≤ 60) : r ≤ 20 := by
  apply Nat.not_lt.1
  intro hr
  have h1 : 10 ^ 20 ≤ 10 ^ (r - 1) := Nat.pow_le_pow_right (by decide) (by omega)
  have h2 : 2 ^ k ≤ 2 ^ 60 := Nat.pow_le_pow_right (by decide) hk
  have := h.lt
  have := h.ge
  have e1 : (10 : Nat) ^ 20 = 100000000000000000000 := by decide
  have e2 : (2 : Nat) ^ 60 = 1152921504606846976 := by decide
  rw [e1] at h1
  rw [e2] at h2
  omega


theorem band (a b : Nat) (ha : a < 18446744073709551616) (hb : b < 18446744073709551616) : bits .and .u64 (a : Int) (b : Int) = ((a &&& b : Nat) : Int) := by
  show IntKind.u64.wrap (((BitVec.ofInt 64 (a : Int) &&& BitVec.ofInt 64 (b : Int)).toNat : Nat) : Int) = _
  rw [BitVec.ofInt_natCast, BitVec.ofInt_natCast, BitVec.toNat_and, BitVec.toNat_ofNat, BitVec.toNat_ofNat, Nat.mod_eq_of_lt (by omega), Nat.mod_eq_of_lt (by omega), IntKind.wrap_u64]
  have := Nat.and_le_left (n := a) (m := b)
  omega
theorem bmask (n k p : Nat) (hp : p = 2 ^ k) (hp1 : p ≤ 1152921504606846976) (h1 : 1 ≤ p) (hn : n < 18446744073709551616) : bits .and .u64 (n : Int) ((p : Int) - 1) = ((n % p : Nat) : Int) := by
  have h := band n (p - 1) hn (by omega)
  rw [show ((p - 1 : Nat) : Int) = (p : Int) - 1 by omega] at h
  rw [h, hp, Nat.and_two_pow_sub_one_eq_mod]
theorem pow60 : (2 : Nat) ^ 60 = 1152921504606846976 := by decide

/-- The state of rightShift's last loops: q digits are put down, m is left. -/
def RS (w : World) (b : Nat) (G : Nat → Int) (nd : Nat) (dp : Int) (ng : Bool) (p n q m : Nat) (keep : Bool) (wr : World) : Prop :=
  ∃ H tr, DecAt wr b H nd dp ng tr ∧ (keep = true → ∀ j, q ≤ j → H j = G j) ∧ (∀ j, j < q → 48 ≤ H j ∧ H j ≤ 57) ∧ (0 < q → H 0 = 48 + ((n / p : Nat) : Int)) ∧ m < 10 * p ∧ (q = 0 → m = n) ∧ Below b w wr
theorem RS.put {w : World} {b : Nat} {G : Nat → Int} {nd : Nat} {dp : Int} {ng : Bool} {p n q m d e : Nat} {kp : Bool} {wr : World} (h : RS w b G nd dp ng p n q m kp wr) (hq : q < 800) (hd : d = m / p) (he : e < 10 * p) :
    RS w b G nd dp ng p n (q + 1) e kp (wr.setCell ⟨b, q, none⟩ (.int .u8 ((d : Int) + 48))) := by
  obtain ⟨H, tr, h1, h2, h3, h4, h5, h6, h7⟩ := h
  have hd9 : d < 10 := by rw [hd]; exact Nat.div_lt_of_lt_mul (by rw [Nat.mul_comm]; exact h5)
  refine ⟨fun j => if j = q then ((d : Int) + 48) else H j, tr, h1.setDig hq _, fun hk j hj => ?_, fun j hj => ?_, fun _ => ?_, he, fun h => by omega, dset h7 q _⟩
  · dsimp only
    rw [if_neg (by omega)]
    exact h2 hk j (by omega)
  · dsimp only
    by_cases e1 : j = q
    · rw [if_pos e1]; omega
    · rw [if_neg e1]; exact h3 j (by omega)
  · dsimp only
    by_cases e1 : q = 0
    · rw [if_pos e1.symm, hd, h6 e1]; omega
    · rw [if_neg (by omega)]; exact h4 (by omega)
theorem RS.mark {w : World} {b : Nat} {G : Nat → Int} {nd : Nat} {dp : Int} {ng : Bool} {p n q m e : Nat} {kp : Bool} {wr : World} (h : RS w b G nd dp ng p n q m kp wr) (hq : 0 < q) (he : e < 10 * p) :
    RS w b G nd dp ng p n q e kp (wr.setCell ⟨b, 803, none⟩ (.bool true)) ∧ RS w b G nd dp ng p n q e kp wr := by
  obtain ⟨H, tr, h1, h2, h3, h4, h5, h6, h7⟩ := h
  exact ⟨⟨H, true, h1.setTr true, h2, h3, h4, he, fun h => by omega, dset h7 803 _⟩, ⟨H, tr, h1, h2, h3, h4, he, fun h => by omega, h7⟩⟩

set_option maxHeartbeats 1000000 in
set_option maxRecDepth 100000 in
theorem right_any (b : Nat) (G : Nat → Int) (nd : Nat) (dp : Int) (ng tr : Bool) (k : Nat) (w : World) (hk1 : 1 ≤ k) (hk : k ≤ 60) (hn : 1 ≤ nd) (hg : Good G nd) (h1 : -1000000000 ≤ dp) (h2 : dp ≤ 1000000000) (hd : DecAt w b G nd dp ng tr) :
    Calls Tryz.prog 98 #[.pointer (some ⟨b, 0, none⟩), .int .u64 k] w (RightPost b G dp ng w) := by
  have HD := Lib.hid hd
  have HG := Lib.hid hg
  have hle := hg.le
  obtain ⟨p, hp⟩ : ∃ p, p = 2 ^ k := ⟨_, rfl⟩
  have hpl : p ≤ 1152921504606846976 := by rw [hp, ← pow60]; exact Nat.pow_le_pow_right (by decide) hk
  have hp1 : 1 ≤ p := by rw [hp]; exact Nat.pow_pos (by decide)
  have HP := Lib.hid hp
  have hpI : (2 : Int) ^ k = (p : Int) := by rw [hp]; simp
  clear hd hg hp
  go_enter Tryz.func98, Tryz.ntmps98
  go_upto_block 0 with fail
  go_cut [4, 6] (fun r n wx => ∃ r' n' : Nat, r = .int .i64 r' ∧ n = .int .u64 n' ∧ wx = w ∧ Hid (Lead G k r' n' ∧ p ≤ n'))
  case first =>
    go_wp2_with fail
    go_loop [4, 6] (fun r n => ∃ r' n' : Nat, r = .int .i64 r' ∧ n = .int .u64 n' ∧ r' ≤ nd ∧ Hid (r' = 0 ∧ n' = 0 ∨ Lead G k r' n')) (fun r _ => nd - (intOf r).toNat)
    case atStart => exact ⟨0, 0, rfl, rfl, by omega, Lib.hid (.inl ⟨rfl, rfl⟩)⟩
    case round =>
      obtain ⟨r, n, rfl, rfl, hr, hL⟩ := hrel
      by_cases hnp : n < p
      · have hq : ((n : Int) / (p : Int) == 0) = true := by rw [beq_iff_eq]; exact Int.ediv_eq_zero_of_lt (by omega) (by omega)
        have c0 := HD.out.cnd
        by_cases hrn : r < nd
        · have c1 := HD.out.dig (i := r) (by omega)
          have lo := HG.out.lo r hrn
          have hi := HG.out.hi r hrn
          have hrn' : (r : Int) < (nd : Int) := by omega
          obtain ⟨c, hc⟩ : ∃ c : Nat, (c : Int) = G r - 48 := ⟨(G r - 48).toNat, by omega⟩
          have hnext : Lead G k (r + 1) (n * 10 + c) := by
            rcases hL.out with ⟨rfl, rfl⟩ | hL
            · have := Lead.first (k := k) HG.out hn c hc
              rw [Nat.zero_mul, Nat.zero_add, Nat.zero_add]
              exact this
            · exact hL.next (by rw [← HP.out]; exact hnp) (by omega)
          have HN := Lib.hid hnext
          clear hnext
          go_wp2_with fail
          go_round
          case rel => exact ⟨r + 1, n * 10 + c, by go_num, by go_num, by omega, Lib.hid (.inr HN.out)⟩
          case measure => simp [intOf]; omega
        · obtain rfl : r = nd := by omega
          have hL1 : Lead G k r n := by
            rcases hL.out with ⟨e, _⟩ | hL
            · omega
            · exact hL
          have hn1 : 1 ≤ n := Nat.le_trans (Nat.pow_pos (by decide)) hL1.ge
          have hn0 : ((n : Int) == 0) = false := beq_eq_false_iff_ne.2 (by omega)
          have hr20 := hL1.small hk
          have HL1 := Lib.hid hL1
          clear hL1
          go_wp2_with fail
          go_loop [4, 6] (fun r n => ∃ r' n' : Nat, r = .int .i64 r' ∧ n = .int .u64 n' ∧ Hid (1 ≤ n' ∧ Lead G k r' n')) (fun _ n => p - (intOf n).toNat)
          case atStart => exact ⟨r, n, rfl, rfl, Lib.hid ⟨hn1, HL1.out⟩⟩
          case round =>
            obtain ⟨r, n, rfl, rfl, hL⟩ := hrel
            have hr20 := hL.out.2.small hk
            by_cases hnp : n < p
            · have hq : ((n : Int) / (p : Int) == 0) = true := by rw [beq_iff_eq]; exact Int.ediv_eq_zero_of_lt (by omega) (by omega)
              have hnext := hL.out.2.next (c := 0) (by rw [← HP.out]; exact hnp) (by omega)
              have hn1 := hL.out.1
              have HN := Lib.hid hnext
              clear hnext
              go_wp2_with fail
              go_round
              case rel => exact ⟨r + 1, n * 10 + 0, by go_num, by go_num, Lib.hid ⟨by omega, HN.out⟩⟩
              case measure => simp [intOf]; omega
            · have hq : ((n : Int) / (p : Int) == 0) = false := by
                rw [beq_eq_false_iff_ne]
                have : 1 ≤ (n : Int) / (p : Int) := Int.le_ediv_of_mul_le (by omega) (by omega)
                omega
              go_wp2_with fail
              go_meet
              exact ⟨r, n, rfl, rfl, rfl, Lib.hid ⟨hL.out.2, by omega⟩⟩
      · have hq : ((n : Int) / (p : Int) == 0) = false := by
          rw [beq_eq_false_iff_ne]
          have : 1 ≤ (n : Int) / (p : Int) := Int.le_ediv_of_mul_le (by omega) (by omega)
          omega
        have hL1 : Lead G k r n := by
          rcases hL.out with ⟨_, e⟩ | hL
          · omega
          · exact hL
        have HL1 := Lib.hid hL1
        clear hL1
        go_wp2_with fail
        go_meet
        exact ⟨r, n, rfl, rfl, rfl, Lib.hid ⟨HL1.out, by omega⟩⟩
  case rest =>
    obtain ⟨r, n, rfl, rfl, rfl, hL⟩ := hcut
    have c2 := HD.out.cdp
    have f2 := HD.out.fz 801
    have hr20 := hL.out.1.small hk
    have hr1 := hL.out.1.pos
    obtain ⟨dp1, hdp1⟩ : ∃ dp1, dp1 = dp - ((r : Int) - 1) := ⟨_, rfl⟩
    go_upto_block 4 with fail
    rw [← hdp1]
    obtain ⟨W1, eW⟩ : ∃ W1, W1 = wc.setCell ⟨b, 801, none⟩ (.int .i64 dp1) := ⟨_, rfl⟩
    have hR : RS wc b G nd dp1 ng p n 0 n true W1 := by
      rw [eW]
      exact ⟨G, tr, HD.out.setDp dp1, fun _ _ _ => rfl, fun j hj => by omega, fun h => by omega, by rw [HP.out]; exact hL.out.1.lt, fun _ => rfl, dset (Below.refl _ _) 801 _⟩
    have HR := Lib.hid hR
    have HDP := Lib.hid hdp1
    rw [← eW]
    clear eW hR hdp1 c2 f2
    go_wp2_with fail
    go_loopw [4, 5, 6] (fun r' w' n' wr => ∃ (r2 q m : Nat), r' = .int .i64 r2 ∧ w' = .int .i64 q ∧ n' = .int .u64 m ∧ r2 = r + q ∧ (r2 ≤ nd ∨ q = 0) ∧ Hid (RS wc b G nd dp1 ng p n q m true wr)) (fun r' _ _ _ => nd - (intOf r').toNat)
    case atStart => exact ⟨r, 0, n, rfl, rfl, rfl, rfl, .inr rfl, HR⟩
    case round =>
      obtain ⟨r2, q, m, rfl, rfl, rfl, hr2, hq2, hS⟩ := hrel
      obtain ⟨H, tr2, g1, g2, _, _, g5, _, _⟩ := hS.out
      have c0 := g1.cnd
      have HR2 := Lib.hid (And.intro hr2 hq2)
      have hqr : q < r2 := by omega
      have hq8 : q ≤ 800 := by omega
      clear hr2 hq2
      by_cases hrn : r2 < nd
      · have hrn' : (r2 : Int) < (nd : Int) := by omega
        have c1 := g1.dig (i := r2) (by omega)
        rw [g2 rfl r2 (by omega)] at c1
        have lo := HG.out.lo r2 hrn
        have hi := HG.out.hi r2 hrn
        have f1 := g1.fz q
        have c3 := g1.dig (i := q) (by omega)
        obtain ⟨c, hc⟩ : ∃ c : Nat, (c : Int) = G r2 - 48 := ⟨(G r2 - 48).toNat, by omega⟩
        obtain ⟨d, hd⟩ : ∃ d, d = m / p := ⟨_, rfl⟩
        have hd9 : d < 10 := by rw [hd]; exact Nat.div_lt_of_lt_mul (by rw [Nat.mul_comm]; exact g5)
        have hdI : (m : Int) / (p : Int) = (d : Int) := by rw [hd]; exact (Int.natCast_ediv m p).symm
        obtain ⟨e, he⟩ : ∃ e, e = m % p := ⟨_, rfl⟩
        have hep : e < p := by rw [he]; exact Nat.mod_lt _ (by omega)
        have hm := bmask m k p HP.out hpl hp1 (by omega)
        rw [← he] at hm
        have HS2 := Lib.hid (hS.out.put (e := e * 10 + c) (by omega) hd (by omega))
        have HX := Lib.hid (And.intro hd he)
        clear hd he g2
        go_wp2_with fail
        go_roundw
        case rel => exact ⟨r2 + 1, q + 1, e * 10 + c, by go_num, by go_num, by go_num, by have := HR2.out.1; omega, .inl (by omega), HS2⟩
        case measure => simp [intOf]; omega
      · have hrn' : (nd : Int) ≤ (r2 : Int) := by omega
        have hS1 : Hid (RS wc b G nd dp1 ng p n q m false wr) := Lib.hid (by
          obtain ⟨H, tr, h1, _, h3⟩ := hS.out
          exact ⟨H, tr, h1, (fun h => by cases h), h3⟩)
        clear g1 g2
        go_wp2_with fail
        go_loopw [5, 6] (fun w' n' wr => ∃ (q m : Nat), w' = .int .i64 q ∧ n' = .int .u64 m ∧ q ≤ 800 ∧ Hid (RS wc b G nd dp1 ng p n q m false wr)) (fun _ n' _ => Go.Dec.left k (intOf n').toNat)
        case atStart => exact ⟨q, m, rfl, rfl, hq8, hS1⟩
        case round =>
          obtain ⟨q, m, rfl, rfl, hq8, hS⟩ := hrel
          obtain ⟨H, tr3, g1, _, g3, g4, g5, g6, g7⟩ := hS.out
          by_cases hm0 : m = 0
          · subst hm0
            have hq0 : 1 ≤ q := by
              rcases Nat.eq_zero_or_pos q with e | e
              · have := g6 e
                have := hL.out.2
                omega
              · exact e
            have f0 := g1.fz 800
            have c0 := g1.cnd
            have hnp : p ≤ n := hL.out.2
            have hnp1 : 1 ≤ n / p := (Nat.one_le_div_iff hp1).2 hnp
            have h0 := g4 hq0
            have ht := trim_any b H q dp1 ng tr3 (wr.setCell ⟨b, 800, none⟩ (.int .i64 q)) hq0 hq8 (by rw [h0]; omega) (g1.setNd q)
            have HT := Lib.hid ht
            have H3 := Lib.hid (And.intro g3 (And.intro h0 g7))
            clear ht g3 h0 g4 g6 g7 g1
            go_wp2_with fail
            refine HT.out.mono ?_
            rintro e w' ⟨rfl, nd', hn1, hn2, hD', hB'⟩
            go_wp2_with fail
            refine bodyPost_end (v := .tuple #[]) (by simp [results, Tryz.results98, go_sem]) rfl ?_
            obtain ⟨g3, h0, g7⟩ := H3.out
            have hdp1 := HDP.out
            refine ⟨rfl, H, nd', dp1, tr3, hn1, ⟨by omega, fun i hi => (g3 i (by omega)).1, fun i hi => (g3 i (by omega)).2, fun _ => by rw [h0]; omega⟩, hD', (dset g7 800 _).trans (hB'.mono ?_), by omega, by omega, fun e => ?_⟩
            · exact Nat.le_refl _
            · have hr1' : r = 1 := by omega
              have := hL.out.1.one hr1'
              have : n / p < n := Nat.div_lt_self (by omega) (by
                have h2 := Nat.pow_le_pow_right (n := 2) (by decide) hk1
                rw [← HP.out] at h2
                omega)
              rw [h0]
              omega
          · have hm1 : 1 ≤ m := by omega
            obtain ⟨d, hd⟩ : ∃ d, d = m / p := ⟨_, rfl⟩
            have hd9 : d < 10 := by rw [hd]; exact Nat.div_lt_of_lt_mul (by rw [Nat.mul_comm]; exact g5)
            have hdI : (m : Int) / (p : Int) = (d : Int) := by rw [hd]; exact (Int.natCast_ediv m p).symm
            obtain ⟨e, he⟩ : ∃ e, e = m % p := ⟨_, rfl⟩
            have hep : e < p := by rw [he]; exact Nat.mod_lt _ (by omega)
            have hm := bmask m k p HP.out hpl hp1 (by omega)
            rw [← he] at hm
            have hfall := Go.Dec.left_fall k m hm0
            rw [← HP.out, ← he] at hfall
            have HF := Lib.hid hfall
            clear hfall he
            by_cases hq : q < 800
            · have f1 := g1.fz q
              have c3 := g1.dig (i := q) (by omega)
              have HS2 := Lib.hid (hS.out.put (e := e * 10) hq hd (by omega))
              clear hd g3 g4 g6 g7 g1
              go_wp2_with fail
              go_roundw
              case rel => exact ⟨q + 1, e * 10, by go_num, by go_num, by omega, HS2⟩
              case measure => simp only [intOf]; exact HF.out
            · have hq9 : (800 : Int) ≤ (q : Int) := by omega
              have f1 := g1.fz 803
              have c3 := g1.ctr
              have HS2 := Lib.hid (hS.out.mark (e := e * 10) (by omega) (by omega))
              clear hd g3 g4 g6 g7 g1
              by_cases hd0 : d = 0
              · subst hd0
                go_wp2_with fail
                go_roundw
                case rel => exact ⟨q, e * 10, by go_num, by go_num, by omega, Lib.hid HS2.out.2⟩
                case measure => simp only [intOf]; exact HF.out
              · have hd1 : 1 ≤ d := by omega
                go_wp2_with fail
                go_roundw
                case rel => exact ⟨q, e * 10, by go_num, by go_num, by omega, Lib.hid HS2.out.1⟩
                case measure => simp only [intOf]; exact HF.out
end Go.Proofs.YtoeahdefgblmoaaGreatDoor
