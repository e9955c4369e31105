/-
  ZZSimplifyProduct: the leaves, the product, its description.
-/
import Derived.Test.YtnoghiefpdbpbaaGreatFmtG
namespace Go.Proofs.YtnoghiefpdbpbaaGreatFmt
open Go.RowKit Go.Deep

/-- What ZZSimplifyProduct answers. -/
def Simp (us : List ByteArray) (xs : List Nat) (fs : List Bool) (n p : Nat) (w : World) (e : Ending) (w' : World) : Prop :=
  Below w.heap.size w w' ∧
  (n = 0 → ∃ a1 a2 c1 c2, e = .returned (.tuple #[.int .i64 3, .slice a1 0 c1, .slice a2 0 c2])) ∧
  (0 < n → ∃ (zs : Nat → Nat) (b1 b2 v : Nat) (u : ByteArray), (∀ i, i < n → ∃ W0, zs i = fac (xs.getD i 0) (fs.getD i false) W0) ∧
    e = .returned (.tuple #[.int .i64 1, .slice (some ⟨b1, 0, none⟩) 1 1, .slice (some ⟨b2, 0, none⟩) 1 1]) ∧ w'.cell? ⟨b1, 0, none⟩ = some (.string u) ∧ w'.cell? ⟨b2, 0, none⟩ = some (.float .f64 v) ∧
    (n ≤ p → u = ⟨#[]⟩ ∧ Prods ((idx p n).map zs) v) ∧
    (p < n → u = us.getD p ByteArray.empty ∧ (n = 1 → v = zs p) ∧ (1 < n → ∃ P W, Prods ((idx p n).map zs) P ∧ v = fR .mul (zs p) P W)))

set_option maxHeartbeats 4000000 in
set_option maxRecDepth 100000 in
theorem simp_any (au af ab : Option Addr) (cu cf cb : Nat) (us : List ByteArray) (xs : List Nat) (fs : List Bool) (nu nb p : Nat) (w : World)
    (hu : Slc Value.string ByteArray.empty w au us) (hx : Slc fl 0 w af xs) (hf : Slc Value.bool false w ab fs) (hl : xs.length ≤ 1048577) (hlu : us.length = xs.length) (hnu : nu = xs.length) (hlf : nb = fs.length) (hlb : fs.length = xs.length)
    (hp : ∀ i, i < xs.length → (us.getD i ByteArray.empty = ⟨#[]⟩ ↔ i ≠ p)) (hfu : ∀ i, i < xs.length → fs.getD i false = true → us.getD i ByteArray.empty = ⟨#[]⟩) :
    Calls Tryz.prog 17 #[.slice au nu cu, .slice af xs.length cf, .slice ab nb cb] w (Simp us xs fs xs.length p w) := by
  subst hnu
  have HL := Lib.hid (leaves_any true au af ab cu cf cb us xs fs nb w hu hx hf hl hlu hlf hlb)
  have HP := Lib.hid hp
  have HF := Lib.hid hfu
  obtain ⟨n, en⟩ : ∃ n, n = xs.length := ⟨_, rfl⟩
  rw [← en] at HL HP HF hl ⊢
  clear hu hx hf hlu hlf hlb hp hfu en
  go_enter Tryz.func17, Tryz.ntmps17
  go_wp2_with fail
  refine HL.out.mono ?_
  rintro e w1 ⟨L, N, rfl, hN, hB⟩
  have HN := Lib.hid hN
  have HB := Lib.hid hB
  clear hN hB
  go_wp2_with fail
  have hsz := HB.out.size
  have hz : ∀ o, (w1.alloc o).heap.size = w1.heap.size + 1 := fun o => World.size_alloc _ _
  refine (product_any us xs fs n w.heap.size L w1.heap.size N _ hl ?_ ?_ ?_ (by omega) (fun i hi => HN.out.hiN i hi) (fun i hi ht => HF.out i hi ht) p (fun i hi => HP.out i hi)).mono ?_
  · have h := HN.out
    exact ⟨h.lo, by rw [hz]; have := h.hiL; omega, h.loN, fun i hi => by rw [hz]; have := h.hiN i hi; omega, h.mono, fun i hi => by rw [cell_alloc_old h.hiL]; exact h.row i hi, fun i hi => by rw [cell_alloc_old h.hiL]; exact h.loc i hi,
      fun i hi => by rw [cell_alloc_old (by have := h.hiN i hi; omega)]; exact h.unit i hi, fun i hi => by rw [cell_alloc_old (by have := h.hiN i hi; omega)]; exact h.num i hi, fun i hi => by rw [fz_alloc_old (by have := h.hiN i hi; omega)]; exact h.fz i hi,
      fun i hi ht => by
        have h1 := h.hiN i hi
        rw [ht] at h1
        simp only [b2n, if_pos] at h1
        rw [cell_alloc_old (by omega), fz_alloc_old (by omega)]
        exact h.inn i hi ht⟩
  · rw [World.cell?_alloc_new]; rfl
  · rw [World.frozen?_alloc_new]
  rintro e w2 ⟨hB2, h0, h1⟩
  have HB2 := Lib.hid hB2
  have hz1 := hz (Obj.cells #[Value.slice (some { block := L, off := 0 }) n n] 56)
  have hb12 : Below w.heap.size w w2 := (HB.out.alloc hsz _).trans hB2
  have HB12 := Lib.hid hb12
  have hs12 := hb12.size
  clear hB2 hb12
  rcases Nat.eq_zero_or_pos n with hn0 | hn0
  · obtain ⟨rfl, a, cap, hc⟩ := h0 hn0
    have hd := describe_empty w1.heap.size cap a w2 hc
    clear h1
    go_wp2_with fail
    refine hd.mono ?_
    rintro e w3 ⟨a1, a2, c1, c2, rfl, hB3⟩
    go_wp2_with fail
    go_ret3
    exact ⟨HB12.out.trans (hB3.mono hs12), fun _ => ⟨a1, a2, c1, c2, rfl⟩, fun h => by omega⟩
  · obtain ⟨zs, q, v, u, hzs, rfl, c0, c1, k1, k2⟩ := h1 hn0
    have hd := describe_num q v u w2 c0 c1
    have HZ := Lib.hid (And.intro hzs (And.intro k1 k2))
    clear h0 hzs k1 k2
    go_wp2_with fail
    refine hd.mono ?_
    rintro e w3 ⟨b1, b2, rfl, d0, d1, hB3⟩
    go_wp2_with fail
    go_ret3
    exact ⟨HB12.out.trans (hB3.mono hs12), fun h => by omega, fun _ => ⟨zs, b1, b2, v, u, HZ.out.1, rfl, d0, d1, HZ.out.2.1, HZ.out.2.2⟩⟩
end Go.Proofs.YtnoghiefpdbpbaaGreatFmt
