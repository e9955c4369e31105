/-
  How a sum is described; ZZSimplifySum of a flat sum.
-/
import Derived.Test.YtnoghiefpdbpbaaGreatFmtQ
namespace Go.Proofs.YtnoghiefpdbpbaaGreatFmt
open Go.RowKit Go.Deep

/-- The described terms: units and numbers. -/
def Terms (kind : Int) (u : Nat → ByteArray) (vs : Nat → Nat) (m : Nat) (w : World) (e : Ending) (w' : World) : Prop :=
  Below w.heap.size w w' ∧ ∃ U F : Nat, e = .returned (.tuple #[.int .i64 kind, .slice (some ⟨U, 0, none⟩) m m, .slice (some ⟨F, 0, none⟩) m m]) ∧
    ∀ q, q < m → w'.cell? ⟨U, q, none⟩ = some (.string (u q)) ∧ w'.cell? ⟨F, q, none⟩ = some (.float .f64 (vs q))

set_option maxHeartbeats 1000000 in
set_option maxRecDepth 100000 in
theorem terms_any (kind : Int) (T m cap : Nat) (M vs : Nat → Nat) (u : Nat → ByteArray) (w : World) (hm : m ≤ 1048577)
    (hT : ∀ q, q < m → w.cell? ⟨T, q * 2, none⟩ = some (.iface 57 (.pointer (some ⟨M q, 0, none⟩))) ∧ w.cell? ⟨T, q * 2 + 1, none⟩ = some (.int .i32 0))
    (hM : ∀ q, q < m → w.cell? ⟨M q, 0, none⟩ = some (.string (u q)) ∧ w.cell? ⟨M q, 1, none⟩ = some (.float .f64 (vs q))) :
    Calls Tryz.prog 26 #[.int .i64 kind, .slice (some ⟨T, 0, none⟩) m cap] w (Terms kind u vs m w) := by
  have hm1 : ∀ W, (Instr.makeSlice 22 (.int .i64 0) (.int .i64 (m : Int))).run Tryz.prog W = .ok (.slice (some ⟨W.heap.size, 0, none⟩) 0 m) (W.alloc (.cells (madeCells #[.string ⟨#[]⟩] m) 9)) := fun W => by
    have h := make0 W 22 9 (.string ⟨#[]⟩) 1 16 Tryz.underlying22 info9 m (by omega) (by omega)
    rw [Nat.mul_one] at h
    exact h
  have hm2 : ∀ W, (Instr.makeSlice 23 (.int .i64 0) (.int .i64 (m : Int))).run Tryz.prog W = .ok (.slice (some ⟨W.heap.size, 0, none⟩) 0 m) (W.alloc (.cells (madeCells #[.float .f64 0] m) 33)) := fun W => by
    have h := make0 W 23 33 (.float .f64 0) 1 8 Tryz.underlying23 info33 m (by omega) (by omega)
    rw [Nat.mul_one] at h
    exact h
  have ha := fun x => run_assert_same (P := Tryz.prog) (.pointer (some ⟨x, 0, none⟩)) 45 57 59 u57
  have HT := Lib.hid (And.intro hT hM)
  clear hT hM
  obtain ⟨U, eU⟩ : ∃ U, U = w.heap.size := ⟨_, rfl⟩
  go_enter Tryz.func26, Tryz.ntmps26
  go_wp2_with fail
  go_loopw [7, 8, 21] (fun a b i wr => ∃ k : Nat, k ≤ m ∧ i = .int .i64 k ∧ a = .slice (some ⟨w.heap.size, 0, none⟩) k m ∧ b = .slice (some ⟨w.heap.size + 1, 0, none⟩) k m ∧ Hid (wr.rowIs w.heap.size 9 m (fun i => .string (if i < k then u i else ⟨#[]⟩))) ∧
    Hid (wr.rowIs (w.heap.size + 1) 33 m (fun i => fl (if i < k then vs i else 0))) ∧ Hid (Below w.heap.size w wr)) (fun _ _ i _ => m - (intOf i).toNat)
  case atStart =>
    refine ⟨0, by omega, rfl, rfl, rfl, ?_, ?_, ((Below.refl _ _).alloc (Nat.le_refl _) _).alloc (by rw [World.size_alloc]; omega) _⟩
    · exact ((World.rowIs_made w (.string ⟨#[]⟩) m 9).alloc _).congr (fun i _ => by rw [if_neg (by omega)])
    · have h := World.rowIs_made (w.alloc (.cells (madeCells #[.string ⟨#[]⟩] m) 9)) (.float .f64 0) m 33
      rw [World.size_alloc] at h
      exact h.congr (fun i _ => by rw [if_neg (by omega)])
  case round =>
    obtain ⟨k, hk, rfl, rfl, rfl, rU, rF, hb⟩ := hrel
    by_cases hlt : k < m
    · obtain ⟨t0, t1⟩ := HT.out.1 k hlt
      obtain ⟨n0, n1⟩ := HT.out.2 k hlt
      have g0 := cell_later hb.out t0
      have g1 := cell_later hb.out t1
      have g2 := cell_later hb.out n0
      have g3 := cell_later hb.out n1
      have hz := hb.out.size
      have lT : T < w.heap.size := World.block_lt_of_cell? _ _ t0
      have lM : M k < w.heap.size := World.block_lt_of_cell? _ _ n0
      have lU := World.block_lt_of_cell? _ _ (rU.out.cell hlt)
      have lF := World.block_lt_of_cell? _ _ (rF.out.cell hlt)
      have cU : wr.cell? ⟨w.heap.size, k, none⟩ = some (.string ⟨#[]⟩) := by rw [rU.out.cell hlt, if_neg (by omega)]
      have cF : wr.cell? ⟨w.heap.size + 1, k, none⟩ = some (.float .f64 0) := by rw [rF.out.cell hlt, if_neg (by omega)]
      have fU := rU.out.frozen k
      have fF := rF.out.frozen k
      simp only at lU lF
      have hkm : (k : Int) < (m : Int) := by omega
      obtain ⟨uk, euk⟩ : ∃ x, x = u k := ⟨_, rfl⟩
      obtain ⟨vk, evk⟩ : ∃ x, x = vs k := ⟨_, rfl⟩
      rw [← euk] at g2
      rw [← evk] at g3
      have HUV := Lib.hid (And.intro euk evk)
      have lM' : M k < wr.heap.size := by omega
      have n1 : ∀ i j, (⟨w.heap.size, i, none⟩ : Addr) ≠ ⟨M k, j, none⟩ := fun i j e => by injection e; omega
      have n2 : ∀ i j, (⟨w.heap.size, i, none⟩ : Addr) ≠ ⟨w.heap.size + 1, j, none⟩ := fun i j e => by injection e; omega
      clear t0 t1 n0 euk evk
      go_wp2_with fail
      go_roundw
      case rel =>
        refine ⟨k + 1, by omega, by go_num, rfl, rfl, ?_, ?_, ?_⟩
        · refine ((((row_other (rU.out.set k (.string uk)) (show w.heap.size ≠ w.heap.size + 1 by omega)).alloc _).alloc _).alloc _).congr (fun i _ => ?_)
          by_cases e : i = k
          · subst e; rw [if_pos rfl, if_pos (by omega), HUV.out.1]
          · rw [if_neg e]
            by_cases h2 : i < k
            · rw [if_pos h2, if_pos (by omega)]
            · rw [if_neg h2, if_neg (by omega)]
        · refine (((((row_other rF.out (show w.heap.size + 1 ≠ w.heap.size by omega)).set k (.float .f64 vk)).alloc _).alloc _).alloc _).congr (fun i _ => ?_)
          by_cases e : i = k
          · subst e; rw [if_pos rfl, if_pos (by omega), HUV.out.2]
          · rw [if_neg e]
            by_cases h2 : i < k
            · rw [if_pos h2, if_pos (by omega)]
            · rw [if_neg h2, if_neg (by omega)]
        · have z : ((wr.setCell ⟨w.heap.size, k, none⟩ (.string uk)).setCell ⟨w.heap.size + 1, k, none⟩ (.float .f64 vk)).heap.size = wr.heap.size := by rw [World.size_setCell, World.size_setCell]
          exact ((((hb.out.setCell (Nat.le_refl _) _).setCell (by show w.heap.size ≤ w.heap.size + 1; omega) _).alloc (by rw [z]; omega) _).alloc (by rw [World.size_alloc, z]; omega) _).alloc (by rw [World.size_alloc, World.size_alloc, z]; omega) _
      case measure => simp [intOf]; omega
    · obtain rfl : k = m := by omega
      go_wp2_with fail
      go_ret3
      exact ⟨hb.out, _, _, rfl, fun q hq => ⟨by rw [rU.out.cell hq, if_pos hq], by rw [rF.out.cell hq, if_pos hq]⟩⟩

set_option maxRecDepth 100000 in
set_option maxHeartbeats 1000000 in
theorem describe_sum (c T m cap : Nat) (M vs : Nat → Nat) (u : Nat → ByteArray) (w : World) (hm : m ≤ 1048577) (c0 : w.cell? ⟨c, 0, none⟩ = some (.slice (some ⟨T, 0, none⟩) m cap))
    (hT : ∀ q, q < m → w.cell? ⟨T, q * 2, none⟩ = some (.iface 57 (.pointer (some ⟨M q, 0, none⟩))) ∧ w.cell? ⟨T, q * 2 + 1, none⟩ = some (.int .i32 0))
    (hM : ∀ q, q < m → w.cell? ⟨M q, 0, none⟩ = some (.string (u q)) ∧ w.cell? ⟨M q, 1, none⟩ = some (.float .f64 (vs q))) :
    Calls Tryz.prog 22 #[.iface 46 (.pointer (some ⟨c, 0, none⟩))] w (Terms 2 u vs m w) := by
  have ha := run_assert_same (P := Tryz.prog) (.pointer (some ⟨c, 0, none⟩)) 45 46 48 u46
  have hb := run_assert_other (P := Tryz.prog) (.pointer (some ⟨c, 0, none⟩)) 45 57 46 59 u57 (by decide) z57
  have ht := Lib.hid (terms_any 2 T m cap M vs u w hm hT hM)
  clear hT hM
  go_enter Tryz.func22, Tryz.ntmps22
  go_wp2_with fail
  refine ht.out.mono ?_
  rintro e w' ⟨hB, U, F, rfl, hc⟩
  go_wp2_with fail
  go_ret3
  exact ⟨hB, _, _, rfl, hc⟩

/-- What ZZSimplifySum answers: the groups of equal units, each with its first spelling and its sum. -/
def SumOut (κ : Nat → List Int) (us : List ByteArray) (zs : Nat → Nat) (n : Nat) (w : World) (e : Ending) (w' : World) : Prop :=
  Below w.heap.size w w' ∧ ∃ (U F : Nat) (vs : Nat → Nat), e = .returned (.tuple #[.int .i64 (if (grp κ (List.range n)).length = 1 then 1 else 2), .slice (some ⟨U, 0, none⟩) (grp κ (List.range n)).length (grp κ (List.range n)).length, .slice (some ⟨F, 0, none⟩) (grp κ (List.range n)).length (grp κ (List.range n)).length]) ∧
    ∀ q, q < (grp κ (List.range n)).length → w'.cell? ⟨U, q, none⟩ = some (.string (us.getD (hd (grp κ (List.range n)) q) ByteArray.empty)) ∧ w'.cell? ⟨F, q, none⟩ = some (.float .f64 (vs q)) ∧ Sums (((grp κ (List.range n)).getD q []).map zs) (vs q)

set_option maxHeartbeats 4000000 in
set_option maxRecDepth 100000 in
theorem simpsum_any (κ : Nat → List Int) (au af ab : Option Addr) (cu cf cb : Nat) (us : List ByteArray) (xs : List Nat) (fs : List Bool) (nu nb : Nat) (w : World)
    (hu : Slc Value.string ByteArray.empty w au us) (hx : Slc fl 0 w af xs) (hf : Slc Value.bool false w ab fs) (hl : xs.length ≤ 1048577) (hlu : us.length = xs.length) (hnu : nu = xs.length) (hlf : nb = fs.length) (hlb : fs.length = xs.length)
    (hE : ∀ i j, i < xs.length → j < xs.length → ∀ W, Calls Tryz.prog 27 #[.string (us.getD i ByteArray.empty), .string (us.getD j ByteArray.empty)] W fun e w' => e = .returned (.bool (κ i == κ j)) ∧ W = w') :
    Calls Tryz.prog 13 #[.slice au nu cu, .slice af xs.length cf, .slice ab nb cb, .int .i64 (-1)] w (SumOut κ us (mz xs fs xs.length) xs.length w) := by
  subst hnu
  have HL := Lib.hid (leaves_any false au af ab cu cf cb us xs fs nb w hu hx hf hl hlu hlf hlb)
  have HE := Lib.hid hE
  obtain ⟨n, en⟩ : ∃ n, n = xs.length := ⟨_, rfl⟩
  rw [← en] at HL HE hl ⊢
  clear hu hx hf hlu hlf hlb hE en
  go_enter Tryz.func13, Tryz.ntmps13
  go_wp2_with fail
  refine HL.out.mono ?_
  rintro e w1 ⟨L, N, rfl, hN, hB⟩
  have HN := Lib.hid hN
  have HB := Lib.hid hB
  clear hN hB
  go_wp2_with fail
  have hsz := HB.out.size
  have hz : ∀ o, (w1.alloc o).heap.size = w1.heap.size + 1 := fun o => World.size_alloc _ _
  refine (sum_any κ us xs fs n w.heap.size L w1.heap.size N _ hl ?_ ?_ ?_ (by omega) (fun i hi => HN.out.hiN i hi) HE.out).mono ?_
  · have h := HN.out
    exact ⟨h.lo, by rw [hz]; have := h.hiL; omega, h.loN, fun i hi => by rw [hz]; have := h.hiN i hi; omega, h.mono, fun i hi => by rw [cell_alloc_old h.hiL]; exact h.row i hi, fun i hi => by rw [cell_alloc_old h.hiL]; exact h.loc i hi,
      fun i hi => by rw [cell_alloc_old (by have := h.hiN i hi; omega)]; exact h.unit i hi, fun i hi => by rw [cell_alloc_old (by have := h.hiN i hi; omega)]; exact h.num i hi, fun i hi => by rw [fz_alloc_old (by have := h.hiN i hi; omega)]; exact h.fz i hi,
      fun i hi ht => by
        have h1 := h.hiN i hi
        rw [ht] at h1
        simp only [b2n, if_pos] at h1
        rw [cell_alloc_old (by omega), fz_alloc_old (by omega)]
        exact h.inn i hi ht⟩
  · rw [World.cell?_alloc_new]; rfl
  · rw [World.frozen?_alloc_new]
  rintro e w2 ⟨hB2, M, vs, T, hM, h1, h2⟩
  have hb12 : Below w.heap.size w w2 := (HB.out.alloc hsz _).trans hB2
  have HB12 := Lib.hid hb12
  have hs12 := hb12.size
  have hgl := grp_len κ n (List.range n) (by simp)
  rw [List.length_range] at hgl
  have HM := Lib.hid hM
  clear hB2 hb12 hM
  obtain ⟨m, em⟩ : ∃ m, m = (grp κ (List.range n)).length := ⟨_, rfl⟩
  rw [← em] at h1 h2 HM hgl
  have EM := Lib.hid em
  clear em
  by_cases hm1 : m = 1
  · obtain rfl := h1 hm1
    have hd := describe_num (M 0) (vs 0) _ w2 (HM.out 0 (by omega)).1 (HM.out 0 (by omega)).2.1
    clear h1 h2
    have HD := Lib.hid hd
    clear hd
    go_wp2_with fail
    refine HD.out.mono ?_
    rintro e w3 ⟨b1, b2, rfl, d0, d1, hB3⟩
    go_wp2_with fail
    go_ret3
    unfold SumOut
    rw [← EM.out, hm1]
    exact ⟨HB12.out.trans (hB3.mono hs12), b1, b2, vs, rfl, fun q hq => by
      obtain rfl : q = 0 := by omega
      exact ⟨d0, d1, (HM.out 0 (by omega)).2.2⟩⟩
  · obtain ⟨rfl, c0, hT⟩ := h2 hm1
    have hd := describe_sum w1.heap.size T m n M vs (fun q => us.getD (hd (grp κ (List.range n)) q) ByteArray.empty) w2 (by omega) c0 hT (fun q hq => ⟨(HM.out q hq).1, (HM.out q hq).2.1⟩)
    clear h1 h2 c0 hT
    have HD := Lib.hid hd
    clear hd
    go_wp2_with fail
    refine HD.out.mono ?_
    rintro e w3 ⟨hB3, U, F, rfl, hc⟩
    go_wp2_with fail
    go_ret3
    unfold SumOut
    rw [← EM.out]
    exact ⟨HB12.out.trans (hB3.mono hs12), U, F, vs, by rw [if_neg hm1]; rfl, fun q hq => ⟨(hc q hq).1, (hc q hq).2, (HM.out q hq).2.2⟩⟩
end Go.Proofs.YtnoghiefpdbpbaaGreatFmt
