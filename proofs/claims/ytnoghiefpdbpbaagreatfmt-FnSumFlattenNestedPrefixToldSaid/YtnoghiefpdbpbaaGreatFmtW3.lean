/-
  The walk of the law FnSumFlattenNestedPrefix, whole.
-/
import Derived.Test.YtnoghiefpdbpbaaGreatFmtW2
namespace Go.Proofs.YtnoghiefpdbpbaaGreatFmt
open Go.RowKit Go.Deep Go.PlainAid

theorem fnSumFlattenNestedPrefix_walk (a0 : Option Addr) (cap0 : Nat) (us : List ByteArray) (a1 : Option Addr) (cap1 : Nat) (xs : List Nat) (a2 : Option Addr) (cap2 : Nat) (fs : List Bool) (kz : Int) (W : World)
    (h0 : Slc Value.string ByteArray.empty W a0 us) (l0 : us.length ≤ 9223372036854775807) (h1 : Slc fl 0 W a1 xs) (l1 : xs.length ≤ 9223372036854775807)
    (h2 : Slc Value.bool false W a2 fs) (l2 : fs.length ≤ 9223372036854775807) (hT : EqTabs W) :
    Calls Tryz.prog 5 #[.slice a0 us.length cap0, .slice a1 xs.length cap1, .slice a2 fs.length cap2, .int .i64 kz] W fun e w' => e = .returned (.bool true) ∧ Below W.heap.size W w' := by
  obtain ⟨n0, e0⟩ : ∃ n, n = us.length := ⟨_, rfl⟩
  obtain ⟨n1, e1⟩ : ∃ n, n = xs.length := ⟨_, rfl⟩
  obtain ⟨n2, e2⟩ : ∃ m, m = fs.length := ⟨_, rfl⟩
  have h19 := zz19_any a0 a1 a2 n0 n1 n2 cap0 cap1 cap2 us kz W (by omega) (by omega) (by omega) e0.symm h0
  have h8 := fun (q0 : n0 ≤ 1048576) (q1 : n1 ≤ 1048576) (q2 : n2 ≤ 1048576) (q3 : ∀ i, i < n0 → (us.getD i ByteArray.empty).size ≤ 1048576) => bytes8w_any a0 a1 a2 n0 n1 n2 cap0 cap1 cap2 us W q0 q1 q2 e0.symm q3 h0
  have h10 := fun (h : n0 ≤ 1048576) => clone_stringsw a0 cap0 us W h0 (by omega)
  have h11 := fun (h : n1 ≤ 1048576) V (hb : Below W.heap.size W V) => clone_floats a1 cap1 xs V (h1.below hb) (by omega)
  have h12 := fun (h : n2 ≤ 1048576) V (hb : Below W.heap.size W V) => clone_bools a2 cap2 fs V (h2.below hb) (by omega)
  rw [← e0] at h10 ⊢
  rw [← e1] at h11 ⊢
  rw [← e2] at h12 ⊢
  refine law5 (fun i j => eqF (us.getD i ByteArray.empty) (us.getD j ByteArray.empty)) a0 a1 a2 cap0 cap1 cap2 n0 n1 n2 us xs fs kz W e0.symm e1.symm e2.symm h19 h8 (fun h => (h10 h).mono fun _ _ q => cln q e0)
    (fun h V hb => (h11 h V hb).mono fun _ _ q => cln q e1) (fun h V hb => (h12 h V hb).mono fun _ _ q => cln q e2) (fun q0 q1 q2 hA V b0 b1 b2 d0 d1 d2 hV k0 k1 k2 k hk => ?_)
  have hE : ∀ i j, i < xs.length → j < xs.length → ∀ V', Below V.heap.size V V' → Calls Tryz.prog 27 #[.string (us.getD i ByteArray.empty), .string (us.getD j ByteArray.empty)] V' (Ret (.bool (eqF (us.getD i ByteArray.empty) (us.getD j ByteArray.empty))) V') := fun i j hi hj V' hV' =>
    equalfold_all _ _ V' (by have := hA i (by omega); omega) (by have := hA j (by omega); omega) (hT.below (hV.trans (hV'.mono hV.size)))
  rcases hk with rfl | ⟨g0, g1⟩
  · have hs := simpflat_any (fun i j => eqF (us.getD i ByteArray.empty) (us.getD j ByteArray.empty)) b0 b1 b2 d0 d1 d2 us xs fs n0 n0 V k0 k1 k2 (by omega) (by omega) (by omega) (by omega) (by omega) hE
    rw [← e1, q1] at hs
    exact hs
  · obtain ⟨kn, rfl⟩ : ∃ kn : Nat, k = kn := ⟨k.toNat, by omega⟩
    have hs := simpnest_any (fun i j => eqF (us.getD i ByteArray.empty) (us.getD j ByteArray.empty)) b0 b1 b2 d0 d1 d2 us xs fs n0 n0 kn V k0 k1 k2 (by omega) (by omega) (by omega) (by omega) (by omega) (by omega) hE
    rw [← e1, q1] at hs
    exact hs
end Go.Proofs.YtnoghiefpdbpbaaGreatFmt
