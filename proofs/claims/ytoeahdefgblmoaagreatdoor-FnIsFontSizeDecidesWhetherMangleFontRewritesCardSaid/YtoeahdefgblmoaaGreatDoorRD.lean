/-
  leftShift.
-/
import Derived.Test.YtoeahdefgblmoaaGreatDoorRC
namespace Go.Proofs.YtoeahdefgblmoaaGreatDoor
open Go.RowKit Go.Deep Go.PlainAid Go.Maps Go.Sort

/-- The table of new digits. -/
def Cheats (w : World) : Prop := ∃ R o cap, w.cell? ⟨16, 0, none⟩ = some (.slice (some ⟨R, o, none⟩) 61 cap) ∧
  ∀ k, k < 61 → w.cell? ⟨R, o + k * 2, none⟩ = some (.int .i64 ((Go.Dec.cheats.getD k (0, [])).1 : Nat)) ∧ w.cell? ⟨R, o + k * 2 + 1, none⟩ = some (.string (dtx (Go.Dec.cheats.getD k (0, [])).2))
theorem Cheats.below {w w' : World} (h : Cheats w) (hb : Below w.heap.size w w') : Cheats w' := by
  obtain ⟨R, o, cap, h1, h2⟩ := h
  exact ⟨R, o, cap, cell_later hb h1, fun k hk => ⟨cell_later hb (h2 k hk).1, cell_later hb (h2 k hk).2⟩⟩
theorem cheat_small : ∀ k, k < 61 → (Go.Dec.cheats.getD k (0, [])).1 ≤ 19 ∧ (Go.Dec.cheats.getD k (0, [])).2.length ≤ 100 := by
  intro k hk
  exact (by decide +kernel : ∀ k : Fin 61, (Go.Dec.cheats.getD k.val (0, [])).1 ≤ 19 ∧ (Go.Dec.cheats.getD k.val (0, [])).2.length ≤ 100) ⟨k, hk⟩

theorem shl_drop (k : Nat) (D : List Nat) (q : Nat) (hq : q < D.length) : Go.Dec.shl k (D.drop q) = (((Go.Dec.shl k (D.drop (q + 1))).1 + D[q]'hq * 2 ^ k) / 10, (((Go.Dec.shl k (D.drop (q + 1))).1 + D[q]'hq * 2 ^ k) % 10 :: (Go.Dec.shl k (D.drop (q + 1))).2)) := by
  rw [List.drop_eq_getElem_cons hq]
  rfl

theorem slice169 (B n : Nat) (hn : n ≤ 800) (W : World) :
    (Instr.sliceAt 169 (.pointer (some ⟨B, 0, none⟩)) (some (.int .i64 0)) (some (.int .i64 (n : Int))) none).run Tryz.prog W = .ok (.slice (some ⟨B, 0, none⟩) n 800) W := by
  have ha : Tryz.prog.arrayLen 169 = 800 := by kernel_rfl
  have he : Tryz.prog.elem 169 = 5 := by kernel_rfl
  have hs : ∀ w, (sizeOf 5).run Tryz.prog w = .ok 1 w := fun w => by kernel_rfl
  rw [run_sliceAt_array_lh W 169 ⟨B, 0, none⟩ (by rw [ha, he]; exact Tryz.underlying169) .i64 .i64 0 (n : Int) (by omega) (by omega) (by rw [ha]; omega), he, hs, ha]
  simp only [Result.andThen, slicedAt, Int.toNat_natCast]
  rfl

theorem DecAt.setSum {w : World} {b nd : Nat} {G : Nat → Int} {dp : Int} {ng tr : Bool} (h : DecAt w b G nd dp ng tr) (x y : Nat) : DecAt (w.setCell ⟨b, 800, none⟩ (.int .i64 ((x : Int) + (y : Int)))) b G (x + y) dp ng tr := by
  have := h.setNd (x + y)
  rw [Int.natCast_add] at this
  exact this
theorem DecAt.drew {w : World} {b nd : Nat} {G : Nat → Int} {dp : Int} {ng tr : Bool} (h : DecAt w b G nd dp ng tr) : DecAt w.drew b G nd dp ng tr := h

/-- What leftShift leaves. -/
def LeftPost (b : Nat) (G : Nat → Int) (dp : Int) (ng : Bool) (w : World) (e : Ending) (w' : World) : Prop :=
  e = .returned (.tuple #[]) ∧ ∃ (G' : Nat → Int) (nd' δ : Nat) (tr' : Bool), 1 ≤ nd' ∧ Good G' nd' ∧ DecAt w' b G' nd' (dp + δ) ng tr' ∧ Below b w w' ∧ δ ≤ 19 ∧ (δ = 0 → G 0 < G' 0)

/-- The first loop: the digits below m are as they were, c is carried. -/
def LS (w : World) (b : Nat) (G : Nat → Int) (nd : Nat) (dp : Int) (ng : Bool) (k δ m c : Nat) (wr : World) : Prop :=
  ∃ H tr, DecAt wr b H nd dp ng tr ∧ (∀ j, j < m → H j = G j) ∧ (∀ j, m + δ ≤ j → j < nd + δ → j < 800 → 48 ≤ H j ∧ H j ≤ 57) ∧
    (m < nd → m + δ < 800 → H (m + δ) = 48 + (((Go.Dec.shl k ((dl G nd).drop m)).2.headD 0 : Nat) : Int)) ∧ c = (Go.Dec.shl k ((dl G nd).drop m)).1 ∧ Below b w wr

theorem LS.step {w : World} {b : Nat} {G : Nat → Int} {nd : Nat} {dp : Int} {ng : Bool} {k δ q c g x : Nat} {wr : World} (h : LS w b G nd dp ng k δ (q + 1) c wr) (hq : q < nd) (hg : (g : Int) = G q - 48) (hx : x = c + g * 2 ^ k) :
    (q + δ < 800 → LS w b G nd dp ng k δ q (x / 10) (wr.setCell ⟨b, q + δ, none⟩ (.int .u8 (((x % 10 : Nat) : Int) + 48)))) ∧
    (800 ≤ q + δ → LS w b G nd dp ng k δ q (x / 10) wr ∧ LS w b G nd dp ng k δ q (x / 10) (wr.setCell ⟨b, 803, none⟩ (.bool true))) := by
  obtain ⟨H, tr, h1, h2, h3, h4, h5, h6⟩ := h
  have hql : q < (dl G nd).length := by rw [dl_len]; exact hq
  have hs := shl_drop k (dl G nd) q hql
  rw [dl_at, show (G q - 48).toNat = g by omega, ← h5, ← hx] at hs
  constructor
  · intro h8
    refine ⟨fun j => if j = q + δ then (((x % 10 : Nat) : Int) + 48) else H j, tr, h1.setDig h8 _, fun j hj => ?_, fun j ha hb hc => ?_, fun _ _ => ?_, by rw [hs], dset h6 _ _⟩
    · dsimp only
      rw [if_neg (by omega)]
      exact h2 j (by omega)
    · dsimp only
      by_cases e : j = q + δ
      · rw [if_pos e]; omega
      · rw [if_neg e]; exact h3 j (by omega) hb hc
    · dsimp only
      rw [if_pos rfl, hs, List.headD_cons]
      omega
  · intro h8
    exact ⟨⟨H, tr, h1, fun j hj => h2 j (by omega), fun j ha hb hc => by omega, fun _ h => by omega, by rw [hs], h6⟩,
      ⟨H, true, h1.setTr true, fun j hj => h2 j (by omega), fun j ha hb hc => by omega, fun _ h => by omega, by rw [hs], dset h6 _ _⟩⟩

/-- The second loop: c has just v digits. -/
def LT (w : World) (b : Nat) (G : Nat → Int) (nd : Nat) (dp : Int) (ng : Bool) (δ v c : Nat) (wr : World) : Prop :=
  ∃ H tr, DecAt wr b H nd dp ng tr ∧ (∀ j, v ≤ j → j < nd + δ → j < 800 → 48 ≤ H j ∧ H j ≤ 57) ∧ (v = 0 → 49 ≤ H 0 ∧ (δ = 0 → G 0 < H 0)) ∧ c < 10 ^ v ∧ (∀ u, v = u + 1 → 10 ^ u ≤ c) ∧ v ≤ δ ∧ Below b w wr

theorem LS.done {w : World} {b : Nat} {G : Nat → Int} {nd : Nat} {dp : Int} {ng : Bool} {k δ0 c : Nat} {C : List Nat} {wr : World} (hC : Go.Dec.Cheat k δ0 C) (hk : 1 ≤ k) (hg : Good G nd) (hn : 1 ≤ nd)
    (h : LS w b G nd dp ng k (Go.Dec.newD δ0 (dl G nd) C) 0 c wr) : LT w b G nd dp ng (Go.Dec.newD δ0 (dl G nd) C) (Go.Dec.newD δ0 (dl G nd) C) c wr := by
  obtain ⟨H, tr, h1, h2, h3, h4, h5, h6⟩ := h
  rw [List.drop_zero] at h4 h5
  have hD := dl_lt hg
  have ht := Go.Dec.shl_top hC hD
  have h0 := hg.top hn
  obtain ⟨d, D, hd⟩ : ∃ d D, dl G nd = d :: D := by
    cases he : dl G nd with
    | nil => have := dl_len G nd; rw [he] at this; simp at this; omega
    | cons d D => exact ⟨d, D, rfl⟩
  have hd0 : (d : Int) = G 0 - 48 := by
    have hl : 0 < (dl G nd).length := by rw [dl_len]; exact hn
    have := dl_at G nd 0 hl
    simp only [hd, List.getElem_cons_zero] at this
    omega
  refine ⟨H, tr, h1, fun j a b c => h3 j (by omega) b c, fun e => ?_, by rw [h5]; exact ht, fun u hu => ?_, Nat.le_refl _, h6⟩
  · have e' : Go.Dec.newD δ0 (d :: D) C = 0 := by rw [← hd]; exact e
    have hD' : ∀ x ∈ d :: D, x < 10 := by rw [← hd]; exact hD
    obtain ⟨x, E, hx, hle⟩ := Go.Dec.shl_head hC d D hD' hk e'
    have := h4 hn (by omega)
    rw [e, hd, hx, List.headD_cons] at this
    rw [this]
    exact ⟨by omega, fun _ => by omega⟩
  · rw [h5]
    rw [hd] at hu hD ⊢
    exact Go.Dec.shl_top_ge hC d D (by omega) hD u hu
theorem LT.step {w : World} {b : Nat} {G : Nat → Int} {nd : Nat} {dp : Int} {ng : Bool} {δ u c : Nat} {wr : World} (h : LT w b G nd dp ng δ (u + 1) c wr) (hu : u < 800) :
    LT w b G nd dp ng δ u (c / 10) (wr.setCell ⟨b, u, none⟩ (.int .u8 (((c % 10 : Nat) : Int) + 48))) := by
  obtain ⟨H, tr, h1, h3, h4, h5, h6, h7, h8⟩ := h
  have hc := h6 u rfl
  rw [Nat.pow_succ] at h5
  refine ⟨fun j => if j = u then (((c % 10 : Nat) : Int) + 48) else H j, tr, h1.setDig hu _, fun j ha hb hc => ?_, fun e => ?_, by omega, fun v hv => ?_, by omega, dset h8 _ _⟩
  · dsimp only
    by_cases e : j = u
    · rw [if_pos e]; omega
    · rw [if_neg e]; exact h3 j (by omega) hb hc
  · subst e
    dsimp only
    rw [if_pos rfl]
    rw [Nat.pow_zero] at h5 hc
    exact ⟨by omega, fun e => by omega⟩
  · subst hv
    rw [Nat.pow_succ] at hc
    omega

set_option maxHeartbeats 1000000 in
set_option maxRecDepth 100000 in
theorem left_any (b : Nat) (G : Nat → Int) (nd : Nat) (dp : Int) (ng tr : Bool) (k : Nat) (w : World) (hk1 : 1 ≤ k) (hk : k ≤ 60) (hn : 1 ≤ nd) (hg : Good G nd) (h1 : -1000000000 ≤ dp) (h2 : dp ≤ 1000000000) (hd : DecAt w b G nd dp ng tr) (hC : Cheats w) :
    Calls Tryz.prog 97 #[.pointer (some ⟨b, 0, none⟩), .int .u64 k] w (LeftPost b G dp ng w) := by
  have HD := Lib.hid hd
  have HG := Lib.hid hg
  have hle := hg.le
  obtain ⟨p, hp⟩ : ∃ p, p = 2 ^ k := ⟨_, rfl⟩
  have hpl : p ≤ 1152921504606846976 := by rw [hp, ← pow60]; exact Nat.pow_le_pow_right (by decide) hk
  have hp1 : 1 ≤ p := by rw [hp]; exact Nat.pow_pos (by decide)
  have HP := Lib.hid hp
  have hpI : (2 : Int) ^ k = (p : Int) := by rw [hp]; simp
  obtain ⟨R, o, cap, hc16, hch⟩ := hC
  obtain ⟨hck, hcs⟩ := hch k (by omega)
  have hCh := Go.Dec.cheat_at k hk1 hk
  obtain ⟨hs1, hs2⟩ := cheat_small k (by omega)
  obtain ⟨δ0, C, e0⟩ : ∃ δ0 C, Go.Dec.cheats.getD k (0, []) = (δ0, C) := ⟨_, _, rfl⟩
  rw [e0] at hck hcs hCh hs1 hs2
  dsimp only at hck hcs hCh hs1 hs2
  have hsl := slice169 b nd hle
  have hd1 := hCh.one
  have HCh := Lib.hid hCh
  have hless := fun W (hD : DecAt W b G nd dp ng tr) => less_any b G nd dp ng tr C 800 W hg hCh.dig (by omega) hD
  obtain ⟨L, hL⟩ : ∃ L, L = Go.Dec.less (dl G nd) C := ⟨_, rfl⟩
  rw [← hL] at hless
  have HN : Hid (Go.Dec.newD δ0 (dl G nd) C = if L then δ0 - 1 else δ0) := Lib.hid (by rw [hL]; rfl)
  have hN19 : Go.Dec.newD δ0 (dl G nd) C ≤ 19 := by rw [HN.out]; split <;> omega
  have HL := Lib.hid hL
  have HLess := Lib.hid hless
  have hcn := hd.cnd
  clear hd hg hp hCh hless hL e0 hch
  go_enter Tryz.func97, Tryz.ntmps97
  go_upto_if 30 with fail
  go_cut [30] (fun s wx => s = .bool L ∧ Hid (Below w.heap.size w wx))
  case first =>
    go_wp2_with fail
    go_region_with (go_at_call 104; refine (HLess.out _ HD.out.drew).mono ?_; rintro e w' ⟨rfl, hb⟩)
    all_goals
      go_wp2_with fail
      go_meet
      exact ⟨rfl, Lib.hid ((Below.refl _ _).drew.trans hb)⟩
  case rest =>
  obtain ⟨rfl, hb⟩ := hcut
  go_upto_if 30 with fail
  go_cut [4] (fun s wx => s = .int .i64 (Go.Dec.newD δ0 (dl G nd) C : Nat) ∧ Hid (wx = wc))
  case first =>
    have HN2 := Lib.hid HN
    clear HN
    cases L
    all_goals
      go_wp2_with fail
      go_meet
      rw [HN2.out.out]
      first
        | exact ⟨rfl, Lib.hid rfl⟩
        | exact ⟨by rw [if_pos True.intro]; congr 1; omega, Lib.hid rfl⟩
  case rest =>
    obtain ⟨rfl, hw⟩ := hcut
    rw [← hw.out] at hb
    obtain ⟨δ, hδ⟩ : ∃ δ, δ = Go.Dec.newD δ0 (dl G nd) C := ⟨_, rfl⟩
    rw [← hδ] at hN19 ⊢
    have hDc : DecAt wc b G nd dp ng tr := World.rowIs.of_block HD.out (hb.out.block b HD.out.lt)
    have HDc := Lib.hid hDc
    have c0 := hDc.cnd
    have hbb : Below b w wc := hb.out.mono (Nat.le_of_lt HD.out.lt)
    have hLS : LS w b G nd dp ng k δ nd 0 wc := ⟨G, tr, hDc, fun _ _ => rfl, fun j a c => by omega, fun h => by omega, by rw [List.drop_of_length_le (by rw [dl_len]; exact Nat.le_refl _)]; rfl, hbb⟩
    have HLS := Lib.hid hLS
    have HDL := Lib.hid hδ
    clear hLS hDc hbb hδ
    go_wp2_with fail
    go_loopw [5, 6, 7] (fun r' w' n' wr => ∃ (m c : Nat), r' = .int .i64 ((m : Int) - 1) ∧ w' = .int .i64 ((m : Int) + (δ : Int)) ∧ n' = .int .u64 c ∧ m ≤ nd ∧ c < p ∧ Hid (LS w b G nd dp ng k δ m c wr)) (fun r' _ _ _ => (intOf r' + 1).toNat)
    case atStart => exact ⟨nd, 0, rfl, rfl, rfl, Nat.le_refl _, hp1, HLS⟩
    case round =>
      obtain ⟨m, c, rfl, rfl, rfl, hm, hcp, hS⟩ := hrel
      obtain ⟨H, tr2, g1, g2, -, -, -, g6⟩ := hS.out
      by_cases hm0 : m = 0
      · subst hm0
        have hT : LT w b G nd dp ng δ δ c wr := by
          rw [HDL.out]
          refine LS.done HCh.out hk1 HG.out hn ?_
          rw [← HDL.out]
          exact hS.out
        have HT := Lib.hid hT
        clear g1 g2 g6 hT
        go_wp2_with fail
        go_loopw [6, 7] (fun w' n' wr => ∃ (v c : Nat), w' = .int .i64 v ∧ n' = .int .u64 c ∧ c < p ∧ v ≤ δ ∧ Hid (LT w b G nd dp ng δ v c wr)) (fun _ n' _ => (intOf n').toNat)
        case atStart => exact ⟨δ, c, by go_num, rfl, hcp, Nat.le_refl _, HT⟩
        case round =>
          obtain ⟨v, c, rfl, rfl, hcp, hv, hS⟩ := hrel
          obtain ⟨H, tr3, g1, g2, g3, g4, g5, -, g7⟩ := hS.out
          by_cases hc0 : c = 0
          · subst hc0
            have hv0 : v = 0 := by
              cases v with
              | zero => rfl
              | succ u => have := g5 u rfl; have : 0 < 10 ^ u := Nat.pow_pos (by decide); omega
            have c0 := g1.cnd
            have f0 := g1.fz 800
            have c2 := g1.cdp
            have f2 := g1.fz 801
            subst hv0
            obtain ⟨n2, hn2⟩ : ∃ n2, n2 = if 800 ≤ nd + δ then 800 else nd + δ := ⟨_, rfl⟩
            have hnn : n2 ≤ nd + δ ∧ 1 ≤ n2 ∧ n2 ≤ 800 := by rw [hn2]; split <;> omega
            have h49 := g3 rfl
            have HF := Lib.hid (And.intro g2 (And.intro h49 (And.intro hnn g7)))
            have HG1 := Lib.hid g1
            clear g1 g2 g3 g4 g5 g7 h49
            by_cases h8 : 800 ≤ nd + δ
            · have h8' : (800 : Int) ≤ (nd : Int) + (δ : Int) := by omega
              rw [if_pos h8] at hn2
              subst hn2
              go_wp2_with fail
              refine (trim_any b H 800 (dp + (δ : Int)) ng tr3 _ (by omega) (by omega) HF.out.2.1.1 (((HG1.out.setSum nd δ).setNd 800).setDp _)).mono ?_
              rintro e w' ⟨rfl, nd', k1, k2, hD', hB'⟩
              go_wp2_with fail
              refine bodyPost_end (v := .tuple #[]) (by simp [results, Tryz.results97, go_sem]) rfl ?_
              obtain ⟨g2, ⟨h49, h50⟩, hnn, g7⟩ := HF.out
              exact ⟨rfl, H, nd', δ, tr3, k1, ⟨by omega, fun i hi => (g2 i (by omega) (by omega) (by omega)).1, fun i hi => (g2 i (by omega) (by omega) (by omega)).2, fun _ => h49⟩, hD', (dset (dset (dset g7 _ _) _ _) _ _).trans hB', hN19, h50⟩
            · have h8' : (nd : Int) + (δ : Int) < 800 := by omega
              rw [if_neg h8] at hn2
              have HN2 := Lib.hid hn2
              clear hn2
              go_wp2_with fail
              refine (trim_any b H (nd + δ) (dp + (δ : Int)) ng tr3 _ (by omega) (by omega) HF.out.2.1.1 ((HG1.out.setSum nd δ).setDp _)).mono ?_
              rintro e w' ⟨rfl, nd', k1, k2, hD', hB'⟩
              go_wp2_with fail
              refine bodyPost_end (v := .tuple #[]) (by simp [results, Tryz.results97, go_sem]) rfl ?_
              obtain ⟨g2, ⟨h49, h50⟩, hnn, g7⟩ := HF.out
              exact ⟨rfl, H, nd', δ, tr3, k1, ⟨by omega, fun i hi => (g2 i (by omega) (by omega) (by omega)).1, fun i hi => (g2 i (by omega) (by omega) (by omega)).2, fun _ => h49⟩, hD', (dset (dset g7 _ _) _ _).trans hB', hN19, h50⟩
          · obtain ⟨u, hu⟩ : ∃ u, v = u + 1 := by
              cases v with
              | zero => rw [Nat.pow_zero] at g4; omega
              | succ u => exact ⟨u, rfl⟩
            subst hu
            have hst := hS.out.step (by omega)
            obtain ⟨x, hx⟩ : ∃ x, x = c / 10 := ⟨_, rfl⟩
            obtain ⟨y, hy⟩ : ∃ y, y = c % 10 := ⟨_, rfl⟩
            rw [← hx, ← hy] at hst
            have HST := Lib.hid hst
            have htd : (c : Int).tdiv 10 = (x : Int) := by rw [hx]; exact (Int.natCast_ediv c 10).symm ▸ Int.tdiv_eq_ediv_of_nonneg (by omega)
            have hrm : (c : Int) - 10 * (x : Int) = (y : Int) := by omega
            have hy9 : y < 10 := by omega
            have hxc : x < c := by omega
            have f1 := g1.fz u
            have c3 := g1.dig (i := u) (by omega)
            clear hst hx hy g1 g2 g3 g4 g5 g7
            go_wp2_with fail
            exact ⟨⟨u, x, rfl, rfl, by omega, by omega, HST⟩, by simp only [intOf]; omega⟩
      · obtain ⟨q, hq⟩ : ∃ q, m = q + 1 := ⟨m - 1, by omega⟩
        subst hq
        have lo := HG.out.lo q (by omega)
        have hi := HG.out.hi q (by omega)
        obtain ⟨g, hg⟩ : ∃ g : Nat, (g : Int) = G q - 48 := ⟨(G q - 48).toNat, by omega⟩
        have c1 := g1.dig (i := q) (by omega)
        rw [g2 q (by omega), show G q = (g : Int) + 48 by omega] at c1
        obtain ⟨y, hy⟩ : ∃ y, y = g * p := ⟨_, rfl⟩
        have hy9 : y ≤ 9 * p := by rw [hy]; exact Nat.mul_le_mul_right _ (by omega)
        have hgy : (g : Int) * (p : Int) = (y : Int) := by rw [hy]; exact (Int.natCast_mul g p).symm
        obtain ⟨x, hx⟩ : ∃ x, x = c + y := ⟨_, rfl⟩
        have hx1 : (c : Int) + (y : Int) = (x : Int) := by omega
        have hst := hS.out.step (g := g) (x := x) (by omega) hg (by rw [hx, hy, HP.out])
        obtain ⟨z, hz⟩ : ∃ z, z = x / 10 := ⟨_, rfl⟩
        obtain ⟨t, ht⟩ : ∃ t, t = x % 10 := ⟨_, rfl⟩
        rw [← hz, ← ht] at hst
        have htd : (x : Int).tdiv 10 = (z : Int) := by rw [hz]; exact (Int.natCast_ediv x 10).symm ▸ Int.tdiv_eq_ediv_of_nonneg (by omega)
        have hrm : (x : Int) - 10 * (z : Int) = (t : Int) := by omega
        have ht9 : t < 10 := by omega
        have hzp : z < p := by omega
        have hx64 : x ≤ 11529215046068469760 := by omega
        have hg9 : g ≤ 9 := by omega
        have HX := Lib.hid (And.intro hx (And.intro hz (And.intro ht (And.intro hy hg))))
        clear hx hz ht hy hg lo hi
        by_cases h8 : q + δ < 800
        · have hst1 := Lib.hid (hst.1 h8)
          have f1 := g1.fz (q + δ)
          have c3 := g1.dig (i := q + δ) h8
          clear hst g1 g2 g6
          go_wp2_with fail
          exact ⟨⟨q, z, by go_num, by go_num, by go_num, by omega, hzp, hst1⟩, by simp only [intOf]; omega⟩
        · have hst1 := Lib.hid (hst.2 (by omega))
          have f1 := g1.fz 803
          have c3 := g1.ctr
          clear hst g1 g2 g6
          have h8' : (800 : Int) ≤ (q : Int) + (δ : Int) := by omega
          by_cases ht0 : t = 0
          · subst ht0
            go_wp2_with fail
            exact ⟨⟨q, z, by go_num, by go_num, by go_num, by omega, hzp, Lib.hid hst1.out.1⟩, by simp only [intOf]; omega⟩
          · have ht0' : ((t : Int) != 0) = true := by rw [bne_iff_ne]; omega
            go_wp2_with fail
            exact ⟨⟨q, z, by go_num, by go_num, by go_num, by omega, hzp, Lib.hid hst1.out.2⟩, by simp only [intOf]; omega⟩
end Go.Proofs.YtoeahdefgblmoaaGreatDoor
