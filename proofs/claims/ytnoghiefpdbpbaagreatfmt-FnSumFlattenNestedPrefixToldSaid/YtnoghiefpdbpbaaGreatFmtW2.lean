/-
  The small callees of the law FnSumFlattenNestedPrefix.
-/
import Derived.Test.YtnoghiefpdbpbaaGreatFmtW
namespace Go.Proofs.YtnoghiefpdbpbaaGreatFmt
open Go.RowKit Go.Deep Go.PlainAid

set_option maxHeartbeats 400000 in
theorem clone_stringsw (a : Option Addr) (cap : Nat) (xs : List ByteArray) (w : World) (hs : Slc Value.string ByteArray.empty w a xs) (hl : xs.length ≤ 1048576) :
    Calls Tryz.prog 10 #[.slice a xs.length cap] w (Cloned Value.string ByteArray.empty xs w) := by
  rcases a with _ | ad
  · have h0 : xs = [] := by
      cases xs with
      | nil => rfl
      | cons x l => obtain ⟨b, off, e, _⟩ := hs 0 (by simp); cases e
    subst h0
    have q := fun (W : World) (n c : Nat) => Lib.run_eql_slice_nil (P := Tryz.prog) W 22 9 none n c 0 0 Tryz.underlying22
    go_enter Tryz.func10, Tryz.ntmps10
    go_wp2
    go_ret
    exact ⟨none, 0, rfl, (fun i h => by cases h), Below.refl _ _⟩
  · have HS := Lib.hid hs
    clear hs
    obtain ⟨len, hlen⟩ : ∃ len, len = xs.length := ⟨_, rfl⟩
    rw [← hlen] at hl ⊢
    have HL := Lib.hid hlen
    clear hlen
    have q := fun (W : World) (n c : Nat) => Lib.run_eql_slice_nil (P := Tryz.prog) W 22 9 (some ad) n c 0 0 Tryz.underlying22
    have hmk := fun W => run_make_row' (P := Tryz.prog) 22 9 (Value.string ⟨#[]⟩) 16 Tryz.underlying22 info9 rfl .i64 .i64 len (by omega) (by omega) W
    go_enter Tryz.func10, Tryz.ntmps10
    go_wp2
    go_loopw [4] (fun i wr => ∃ k : Nat, k ≤ len ∧ i = .int .i64 k ∧ Hid (wr.rowIs w.heap.size 9 len (fun j => if j < k then Value.string (xs.getD j ByteArray.empty) else Value.string ⟨#[]⟩)) ∧ Hid (Below w.heap.size w wr)) (fun i _ => len - (intOf i).toNat)
    case atStart => exact ⟨0, by omega, rfl, (World.rowIs_made _ _ _ _).congr (fun i _ => by simp), (Below.refl _ _).alloc (Nat.le_refl _) _⟩
    case round =>
      obtain ⟨k, hk, rfl, hr, hb⟩ := hrel
      by_cases hlt : k < len
      · obtain ⟨b, off, e, hc⟩ := HS.out k (by rw [← HL.out]; exact hlt)
        injection e with e
        subst e
        obtain ⟨x, hsk⟩ : ∃ s, s = xs.getD k ByteArray.empty := ⟨_, rfl⟩
        rw [← hsk] at hc
        have HX := Lib.hid hsk
        clear hsk
        have hcx : wr.cell? ⟨b, off + k, none⟩ = some (Value.string x) := cell_later hb.out hc
        have hrow : wr.cell? ⟨w.heap.size, k, none⟩ = some (Value.string ⟨#[]⟩) := by rw [hr.out.cell hlt]; simp
        have hfz : wr.frozen? ⟨w.heap.size, k, none⟩ = false := hr.out.frozen k
        go_wp2
        go_roundw
        case rel => exact ⟨k + 1, by omega, by go_num, (hr.out.set k (Value.string x)).congr (fun j hj => by
          by_cases hjk : j = k
          · subst hjk; rw [if_pos rfl, if_pos (by omega), HX.out]
          · rw [if_neg hjk]
            by_cases h2 : j < k
            · rw [if_pos h2, if_pos (by omega)]
            · rw [if_neg h2, if_neg (by omega)]), hb.out.setCell (Nat.le_refl _) _⟩
        case measure => simp [intOf]; omega
      · obtain rfl : k = len := by omega
        go_wp2
        go_ret
        exact ⟨some ⟨w.heap.size, 0, none⟩, k, by rw [← HL.out]; rfl, fun i hi => ⟨w.heap.size, 0, rfl, by
          rw [Nat.zero_add, hr.out.cell (by rw [HL.out]; exact hi), if_pos (by rw [HL.out]; exact hi)]⟩, hb.out⟩

set_option maxRecDepth 100000 in
set_option maxHeartbeats 1000000 in
/-- zzBytes_FnSumFlattenNestedPrefix: where it says yes, the slices and the texts are short. -/
theorem zz19_any (a0 a1 a2 : Option Addr) (n0 n1 n2 c0 c1 c2 : Nat) (us : List ByteArray) (kz : Int) (w : World) (h0 : n0 ≤ 9223372036854775807) (h1 : n1 ≤ 9223372036854775807) (h2 : n2 ≤ 9223372036854775807) (hl : us.length = n0) (hu : Slc Value.string ByteArray.empty w a0 us) :
    Calls Tryz.prog 19 #[.slice a0 n0 c0, .slice a1 n1 c1, .slice a2 n2 c2, .int .i64 kz] w (SomeBool (fun b => b = true → n0 ≤ 1048576 ∧ n1 ≤ 1048576 ∧ n2 ≤ 1048576 ∧ ∀ i, i < n0 → (us.getD i ByteArray.empty).size ≤ 1048576) w) := by
  have HU := Lib.hid hu
  have HL := Lib.hid hl
  clear hu hl
  by_cases hn0 : (1048576 : Int) < (n0 : Int)
  · go_enter Tryz.func19, Tryz.ntmps19
    go_wp2_with fail
    go_ret
    exact ⟨false, (fun h => by cases h), rfl, rfl⟩
  go_enter Tryz.func19, Tryz.ntmps19
  go_wp2_with fail
  go_loop [9, 10] (fun z i => ∃ (k m : Nat), k ≤ n0 ∧ m ≤ 1048576 ∧ z = .int .i64 m ∧ i = .int .i64 (k : Int) ∧ ∀ j, j < k → (us.getD j ByteArray.empty).size ≤ 1048576) (fun _ i => n0 - (intOf i).toNat)
  case atStart => exact ⟨0, n0, by omega, by omega, rfl, rfl, fun j hj => by omega⟩
  case round =>
    obtain ⟨k, m, hk, hm, rfl, rfl, hpre⟩ := hrel
    have HP := Lib.hid hpre
    clear hpre
    by_cases hlk : k < n0
    · obtain ⟨b, o, e, hc⟩ := HU.out k (by rw [HL.out]; exact hlk)
      subst e
      obtain ⟨u, eu⟩ : ∃ u, u = us.getD k ByteArray.empty := ⟨_, rfl⟩
      rw [← eu] at hc
      have HE := Lib.hid eu
      clear eu
      have k1 : (k : Int) < (n0 : Int) := by omega
      by_cases hb : (1048576 : Int) < (u.size : Int)
      · go_wp2_with fail
        go_ret
        exact ⟨false, (fun h => by cases h), rfl, rfl⟩
      · by_cases hb2 : (1048576 : Int) < (m : Int) + (u.size : Int)
        · go_wp2_with fail
          go_ret
          exact ⟨false, (fun h => by cases h), rfl, rfl⟩
        · go_wp2_with fail
          go_round
          case rel => exact ⟨k + 1, m + u.size, by omega, by omega, by go_num, by go_num, fun j hj => by
            rcases Nat.lt_or_ge j k with h | h
            · exact HP.out j h
            · obtain rfl : j = k := by omega
              rw [← HE.out]; omega⟩
          case measure => simp [intOf]; omega
    · obtain rfl : k = n0 := by omega
      go_wp2_with fail
      all_goals
        go_ret
        exact ⟨_, fun h => by first | (cases h; done) | exact ⟨by omega, by omega, by omega, HP.out⟩, rfl, rfl⟩

set_option maxRecDepth 100000 in
set_option maxHeartbeats 1000000 in
/-- zzTermBytes answers a number. -/
theorem bytes8w_any (a0 a1 a2 : Option Addr) (n0 n1 n2 c0 c1 c2 : Nat) (us : List ByteArray) (w : World) (h0 : n0 ≤ 1048576) (h1 : n1 ≤ 1048576) (h2 : n2 ≤ 1048576) (hl : us.length = n0) (hs : ∀ i, i < n0 → (us.getD i ByteArray.empty).size ≤ 1048576) (hu : Slc Value.string ByteArray.empty w a0 us) :
    Calls Tryz.prog 8 #[.slice a0 n0 c0, .slice a1 n1 c1, .slice a2 n2 c2] w (SomeInt (fun _ => True) w) := by
  have HU := Lib.hid hu
  have HL := Lib.hid hl
  have HS := Lib.hid hs
  clear hu hl hs
  have k0 : ¬ (1048576 : Int) < (n0 : Int) := by omega
  have k1 : ¬ (1048576 : Int) < (n1 : Int) := by omega
  have k2 : ¬ (1048576 : Int) < (n2 : Int) := by omega
  go_enter Tryz.func8, Tryz.ntmps8
  go_wp2_with fail
  go_loop [7, 8] (fun z i => ∃ (k m : Nat), k ≤ n0 ∧ m ≤ 10485760 ∧ z = .int .i64 m ∧ i = .int .i64 (k : Int)) (fun _ i => n0 - (intOf i).toNat)
  case atStart => exact ⟨0, 8 * n1 + n2, by omega, by omega, by go_num, rfl⟩
  case round =>
    obtain ⟨k, m, hk, hm, rfl, rfl⟩ := hrel
    by_cases hlk : k < n0
    · obtain ⟨b, o, e, hc⟩ := HU.out k (by rw [HL.out]; exact hlk)
      subst e
      have hsk := HS.out k hlk
      obtain ⟨u, eu⟩ : ∃ u, u = us.getD k ByteArray.empty := ⟨_, rfl⟩
      rw [← eu] at hc hsk
      clear eu
      have k3 : (k : Int) < (n0 : Int) := by omega
      have k4 : ¬ (1048576 : Int) < (u.size : Int) := by omega
      by_cases hb2 : (1048576 : Int) < (m : Int) + (16 + (u.size : Int))
      · go_wp2_with fail
        go_ret
        exact ⟨_, trivial, rfl, rfl⟩
      · go_wp2_with fail
        go_round
        case rel => exact ⟨k + 1, m + (16 + u.size), by omega, by omega, by go_num, by go_num⟩
        case measure => simp [intOf]; omega
    · obtain rfl : k = n0 := by omega
      go_wp2_with fail
      go_ret
      exact ⟨_, trivial, rfl, rfl⟩
end Go.Proofs.YtnoghiefpdbpbaaGreatFmt
