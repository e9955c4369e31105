/-
  The decimal text of a number (zzItoa) and the small readers of a numeric node: plain walks.
-/
import Derived.Test.YthbfppnegodpoaaGreatDoorProg
import Derived.WalkKit
import Derived.WalkLawsBesides
import Derived.WalkSpells
import Derived.Lib.Hide
import Derived.Deep.QuietTactic
import Derived.BigQuiet
import Derived.Deep.OwnRows
import Derived.Laws.BytesArg
import Derived.RegionTactic
import Derived.ChangeAlike
import Derived.Deep.DeepFit
import Derived.Handy
import Derived.Outline
namespace Go.Proofs.YthbfppnegodpoaaGreatDoor
open Go.RowKit Go.Deep

/-- The decimal digits, as numbers. -/
def dz (u : Nat) : List Int :=
  if h : u < 10 then [48 + (u : Int)] else dz (u / 10) ++ [48 + ((u % 10 : Nat) : Int)]
termination_by u
decreasing_by omega
/-- The same, nothing for nought. -/
def dzz (u : Nat) : List Int := if u = 0 then [] else dz u
/-- The decimal text of a number. -/
def numZ (n : Int) : List Int := if n < 0 then 45 :: dz n.natAbs else dz n.natAbs

theorem dzz_step (u : Nat) (h : 0 < u) : dzz u = dzz (u / 10) ++ [48 + ((u % 10 : Nat) : Int)] := by
  unfold dzz
  rw [if_neg (by omega)]
  rw [dz]
  by_cases h10 : u < 10
  · rw [dif_pos h10, if_pos (by omega), List.nil_append, Nat.mod_eq_of_lt h10]
  · rw [dif_neg h10, if_neg (by omega)]

theorem dz_length : ∀ (k u : Nat), u < 10 ^ (k + 1) → (dz u).length ≤ k + 1
  | 0, u, h => by
    rw [dz, dif_pos (by simpa using h)]
    simp
  | k + 1, u, h => by
    rw [dz]
    by_cases h10 : u < 10
    · rw [dif_pos h10]; simp
    · rw [dif_neg h10]
      have := dz_length k (u / 10) (by rw [Nat.pow_succ] at h; omega)
      simp; omega

theorem dz_pos (u : Nat) : 0 < (dz u).length := by
  rw [dz]
  split <;> simp

/-- What the buffer holds when the digits ds are laid at its end. -/
def buf (ds : List Int) (p : Nat) : Value := .int .u8 (if 24 ≤ p + ds.length then ds.getD (p + ds.length - 24) 0 else 0)

theorem buf_cons (ds : List Int) (d : Int) (h : ds.length < 24) (p : Nat) :
    (if p = 24 - ds.length - 1 then Value.int .u8 d else buf ds p) = buf (d :: ds) p := by
  unfold buf
  by_cases e : p = 24 - ds.length - 1
  · rw [if_pos e, List.length_cons, if_pos (by omega), show p + (ds.length + 1) - 24 = 0 by omega]
    rfl
  · rw [if_neg e, List.length_cons]
    by_cases h1 : 24 ≤ p + ds.length
    · rw [if_pos h1, if_pos (by omega), show p + (ds.length + 1) - 24 = (p + ds.length - 24) + 1 by omega]
      rfl
    · rw [if_neg h1, if_neg (by omega)]

theorem zeros24 (i : Nat) (h : i < 24) : (#[Value.int .u8 0, .int .u8 0, .int .u8 0, .int .u8 0, .int .u8 0, .int .u8 0, .int .u8 0, .int .u8 0, .int .u8 0, .int .u8 0, .int .u8 0, .int .u8 0, .int .u8 0, .int .u8 0, .int .u8 0, .int .u8 0, .int .u8 0, .int .u8 0, .int .u8 0, .int .u8 0, .int .u8 0, .int .u8 0, .int .u8 0, .int .u8 0] : Array Value)[i]? = some (.int .u8 0) := by
  have e : (#[Value.int .u8 0, .int .u8 0, .int .u8 0, .int .u8 0, .int .u8 0, .int .u8 0, .int .u8 0, .int .u8 0, .int .u8 0, .int .u8 0, .int .u8 0, .int .u8 0, .int .u8 0, .int .u8 0, .int .u8 0, .int .u8 0, .int .u8 0, .int .u8 0, .int .u8 0, .int .u8 0, .int .u8 0, .int .u8 0, .int .u8 0, .int .u8 0] : Array Value) = Array.replicate 24 (.int .u8 0) := rfl
  rw [e, Array.getElem?_replicate, if_pos h]

theorem slice24 (B l n : Nat) (I : Int) (hI : I = (l : Int)) (hl : l < 24) (hn : n = 24 - l) (W : World) :
    (Instr.sliceAt 67 (.pointer (some ⟨B, 0, none⟩)) (some (.int .i64 I)) none none).run Tryz.prog W = .ok (.slice (some ⟨B, l, none⟩) n n) W := by
  subst hn
  have ha : Tryz.prog.arrayLen 67 = 24 := by kernel_rfl
  have he : Tryz.prog.elem 67 = 5 := by kernel_rfl
  have hs : ∀ w, (sizeOf 5).run Tryz.prog w = .ok 1 w := fun w => by kernel_rfl
  subst hI
  rw [run_sliceAt_array_l W 67 ⟨B, 0, none⟩ (by rw [ha, he]; exact Tryz.underlying67) .i64 (l : Int) (by omega) (by rw [ha]; omega), he, hs, ha]
  simp only [Result.andThen, slicedAt, Int.toNat_natCast, Nat.mul_one]
  rw [if_neg (by omega)]
  unfold Addr.add
  split
  · rename_i h0; subst h0; rfl
  · simp

/-- The text made by the call. -/
def Text (n : Int) (w : World) (e : Ending) (w' : World) : Prop := e = .returned (.string (strOfNums (numZ n))) ∧ Below w.heap.size w w'

set_option maxHeartbeats 1000000 in
set_option maxRecDepth 100000 in
/-- zzItoa. -/
theorem itoa_any (n : Int) (w : World) (h1 : -2147483648 ≤ n) (h2 : n ≤ 2147483647) : Calls Tryz.prog 8 #[.int .i64 n] w (Text n w) := by
  by_cases h0 : n = 0
  · subst h0
    go_enter Tryz.func8, Tryz.ntmps8
    go_wp2
    go_ret
    refine ⟨?_, Below.refl _ _⟩
    have : numZ 0 = [48] := by
      unfold numZ
      rw [if_neg (by omega), dz, dif_pos (by decide)]
      rfl
    rw [this]
    rfl
  · have hz : (n == 0) = false := by simpa using h0
    by_cases hn : n < 0
    · go_enter Tryz.func8, Tryz.ntmps8
      go_wp2
      go_loopw [4, 6] (fun u i wr => ∃ (k : Nat) (ds : List Int), u = .int .u64 k ∧ i = .int .i64 (24 - (ds.length : Int)) ∧ k ≤ 2147483648 ∧ ds.length ≤ 10 ∧ Hid (dzz k ++ ds = dz n.natAbs) ∧ Hid (wr.rowIs w.heap.size 67 24 (buf ds)) ∧ Hid (Below w.heap.size w wr)) (fun u _ _ => (intOf u).toNat)
      case atStart =>
        refine ⟨n.natAbs, [], ?_, rfl, by omega, by simp, ?_, ?_, (Below.refl _ _).alloc (Nat.le_refl _) _⟩
        · go_num
        · show dzz n.natAbs ++ [] = _
          unfold dzz
          rw [if_neg (by omega), List.append_nil]
        · exact World.rowIs_alloc w _ 67 (buf []) (fun i hi => by
            have hi' : i < 24 := hi
            have hb : buf [] i = .int .u8 0 := by unfold buf; split <;> simp
            rw [hb]
            exact zeros24 i hi')
      case round =>
        obtain ⟨k, ds, rfl, rfl, hk, hds, he, hr, hb⟩ := hrel
        by_cases hk0 : 0 < k
        · have hlen : ds.length < 10 := by
            have h1 := congrArg List.length he.out
            have h2 := dz_length 9 n.natAbs (by omega)
            rw [List.length_append, dzz_step k hk0, List.length_append, List.length_singleton] at h1
            omega
          have hcell : wr.cell? ⟨w.heap.size, 24 - ds.length - 1, none⟩ = some (buf ds (24 - ds.length - 1)) := hr.out.cell (by omega)
          have hfz : wr.frozen? ⟨w.heap.size, 24 - ds.length - 1, none⟩ = false := hr.out.frozen _
          have hmod : (k : Int) % 10 = ((k % 10 : Nat) : Int) := by omega
          have HM := Lib.hid hmod
          clear hmod
          go_wp2
          go_roundw
          case rel =>
            refine ⟨k / 10, (48 + ((k % 10 : Nat) : Int)) :: ds, by go_num, ?_, by omega, by simp; omega, ?_, ?_, hb.out.setCell (Nat.le_refl _) _⟩
            · rw [List.length_cons]; go_num
            · show dzz (k / 10) ++ _ = _
              rw [← he.out, dzz_step k hk0, List.append_assoc]
              rfl
            · rw [HM.out]
              exact (hr.out.set _ _).congr (fun p hp => buf_cons ds _ (by omega) p)
          case measure => simp [intOf]; omega
        · obtain rfl : k = 0 := by omega
          have hcell : wr.cell? ⟨w.heap.size, 24 - ds.length - 1, none⟩ = some (.int .u8 0) := by rw [hr.out.cell (by omega)]; unfold buf; rw [if_neg (by omega)]
          have hfz : wr.frozen? ⟨w.heap.size, 24 - ds.length - 1, none⟩ = false := hr.out.frozen _
          have hp : 0 < ds.length := by
            have h1 := congrArg List.length he.out
            have h2 := dz_pos n.natAbs
            rw [List.length_append] at h1
            simp only [dzz, if_pos] at h1
            simp at h1
            omega
          have hs2 := slice24 w.heap.size (24 - ds.length - 1) (ds.length + 1) (24 - (ds.length : Int) - 1) (by omega) (by omega) (by omega)
          have hr' : (wr.setCell ⟨w.heap.size, 24 - ds.length - 1, none⟩ (.int .u8 45)).rowIs w.heap.size 67 24 (buf (45 :: ds)) := (hr.out.set _ _).congr (fun p _ => buf_cons ds 45 (by omega) p)
          have hcv := run_convert_bytes_arg (P := Tryz.prog) (wr.setCell ⟨w.heap.size, 24 - ds.length - 1, none⟩ (.int .u8 45)) 68 5 Tryz.underlying68 Tryz.underlying5 w.heap.size (24 - ds.length - 1) (ds.length + 1) (ds.length + 1) (45 :: ds) (by simp) (fun i hi => by
            rw [hr'.cell (by omega)]
            unfold buf
            rw [List.length_cons, if_pos (by omega), show 24 - ds.length - 1 + i + (ds.length + 1) - 24 = i by omega]) 9 Tryz.underlying9
          have HB := Lib.hid (hb.out.setCell (p := ⟨w.heap.size, 24 - ds.length - 1, none⟩) (Nat.le_refl _) (.int .u8 45))
          have HE : Hid (ds = dz n.natAbs) := by
            have h1 := he.out
            simp only [dzz, if_pos] at h1
            exact Lib.hid (by simpa using h1)
          clear hr' hr he hb
          go_wp2
          go_ret
          refine ⟨?_, HB.out⟩
          show Ending.returned (.string (strOfNums (45 :: ds))) = _
          unfold numZ
          rw [if_pos hn, HE.out]
    · go_enter Tryz.func8, Tryz.ntmps8
      go_wp2
      go_loopw [4, 6] (fun u i wr => ∃ (k : Nat) (ds : List Int), u = .int .u64 k ∧ i = .int .i64 (24 - (ds.length : Int)) ∧ k ≤ 2147483648 ∧ ds.length ≤ 10 ∧ Hid (dzz k ++ ds = dz n.natAbs) ∧ Hid (wr.rowIs w.heap.size 67 24 (buf ds)) ∧ Hid (Below w.heap.size w wr)) (fun u _ _ => (intOf u).toNat)
      case atStart =>
        refine ⟨n.natAbs, [], ?_, rfl, by omega, by simp, ?_, ?_, (Below.refl _ _).alloc (Nat.le_refl _) _⟩
        · go_num
        · show dzz n.natAbs ++ [] = _
          unfold dzz
          rw [if_neg (by omega), List.append_nil]
        · exact World.rowIs_alloc w _ 67 (buf []) (fun i hi => by
            have hi' : i < 24 := hi
            have hb : buf [] i = .int .u8 0 := by unfold buf; split <;> simp
            rw [hb]
            exact zeros24 i hi')
      case round =>
        obtain ⟨k, ds, rfl, rfl, hk, hds, he, hr, hb⟩ := hrel
        by_cases hk0 : 0 < k
        · have hlen : ds.length < 10 := by
            have h1 := congrArg List.length he.out
            have h2 := dz_length 9 n.natAbs (by omega)
            rw [List.length_append, dzz_step k hk0, List.length_append, List.length_singleton] at h1
            omega
          have hcell : wr.cell? ⟨w.heap.size, 24 - ds.length - 1, none⟩ = some (buf ds (24 - ds.length - 1)) := hr.out.cell (by omega)
          have hfz : wr.frozen? ⟨w.heap.size, 24 - ds.length - 1, none⟩ = false := hr.out.frozen _
          have hmod : (k : Int) % 10 = ((k % 10 : Nat) : Int) := by omega
          have HM := Lib.hid hmod
          clear hmod
          go_wp2
          go_roundw
          case rel =>
            refine ⟨k / 10, (48 + ((k % 10 : Nat) : Int)) :: ds, by go_num, ?_, by omega, by simp; omega, ?_, ?_, hb.out.setCell (Nat.le_refl _) _⟩
            · rw [List.length_cons]; go_num
            · show dzz (k / 10) ++ _ = _
              rw [← he.out, dzz_step k hk0, List.append_assoc]
              rfl
            · rw [HM.out]
              exact (hr.out.set _ _).congr (fun p hp => buf_cons ds _ (by omega) p)
          case measure => simp [intOf]; omega
        · obtain rfl : k = 0 := by omega
          have hcell : wr.cell? ⟨w.heap.size, 24 - ds.length - 1, none⟩ = some (.int .u8 0) := by rw [hr.out.cell (by omega)]; unfold buf; rw [if_neg (by omega)]
          have hfz : wr.frozen? ⟨w.heap.size, 24 - ds.length - 1, none⟩ = false := hr.out.frozen _
          have hp : 0 < ds.length := by
            have h1 := congrArg List.length he.out
            have h2 := dz_pos n.natAbs
            rw [List.length_append] at h1
            simp only [dzz, if_pos] at h1
            simp at h1
            omega
          have hs2 := slice24 w.heap.size (24 - ds.length) ds.length (24 - (ds.length : Int)) (by omega) (by omega) (by omega)
          have hcv := run_convert_bytes_arg (P := Tryz.prog) wr 68 5 Tryz.underlying68 Tryz.underlying5 w.heap.size (24 - ds.length) ds.length ds.length ds rfl (fun i hi => by
            rw [hr.out.cell (by omega)]
            unfold buf
            rw [if_pos (by omega), show 24 - ds.length + i + ds.length - 24 = i by omega]) 9 Tryz.underlying9
          have HE : Hid (ds = dz n.natAbs) := by
            have h1 := he.out
            simp only [dzz, if_pos] at h1
            exact Lib.hid (by simpa using h1)
          clear hr he
          go_wp2
          go_ret
          refine ⟨?_, hb.out⟩
          show Ending.returned (.string (strOfNums ds)) = _
          unfold numZ
          rw [if_neg (by omega), HE.out]

/-- The whitespace flags. -/
def wsN (b a : Bool) : Int := (if b then 1 else 0) + (if a then 2 else 0)

theorem ws_any (b a : Bool) (w : World) : Calls Tryz.prog 9 #[.bool b, .bool a] w fun e w' => e = .returned (.int .u8 (wsN b a)) ∧ w = w' := by
  cases b <;> cases a
  all_goals
    go_enter Tryz.func9, Tryz.ntmps9
    go_wp2
    go_ret
    exact ⟨rfl, rfl⟩

theorem unit_any (b : Nat) (u : ByteArray) (w : World) (h : w.cell? ⟨b, 0, none⟩ = some (.string u)) : Calls Tryz.prog 11 #[.pointer (some ⟨b, 0, none⟩)] w fun e w' => e = .returned (.string u) ∧ w = w' := by
  go_enter Tryz.func11, Tryz.ntmps11
  go_wp2
  go_ret
  exact ⟨rfl, rfl⟩

theorem number_any (b : Nat) (x : Nat) (w : World) (h : w.cell? ⟨b, 1, none⟩ = some (.float .f64 x)) : Calls Tryz.prog 12 #[.pointer (some ⟨b, 0, none⟩)] w fun e w' => e = .returned (.float .f64 x) ∧ w = w' := by
  go_enter Tryz.func12, Tryz.ntmps12
  go_wp2
  go_ret
  exact ⟨rfl, rfl⟩

/-- A type assertion that holds: the interface value bears just this pointer type. -/
theorem run_assert_same {P : Program} (x : Value) (xt t d : TypeId) (ht : P.underlying t = some (.pointer d)) (w : World) :
    (Instr.typeAssert (.iface t x) xt t true).run P w = .ok (.tuple #[x, .bool true]) w := by
  simp [Instr.typeAssert, run_underlying ht]
/-- One that does not: another type. -/
theorem run_assert_other {P : Program} (x : Value) (xt t u d : TypeId) (ht : P.underlying t = some (.pointer d)) (hu : u ≠ t) (hz : ∀ w, (zeroValue t).run P w = .ok (.pointer none) w) (w : World) :
    (Instr.typeAssert (.iface u x) xt t true).run P w = .ok (.tuple #[.pointer none, .bool false]) w := by
  simp [Instr.typeAssert, run_underlying ht, hu, hz]

set_option maxRecDepth 100000 in
theorem simp_any (b : Nat) (w : World) : Calls Tryz.prog 13 #[.pointer (some ⟨b, 0, none⟩)] w fun e w' => e = .returned (.tuple #[.pointer (some ⟨b, 0, none⟩), .bool true]) ∧ w = w' := by
  have ha := run_assert_same (P := Tryz.prog) (.pointer (some ⟨b, 0, none⟩)) 70 34 73 Tryz.underlying34
  go_enter Tryz.func13, Tryz.ntmps13
  go_wp2
  go_ret2
  exact ⟨rfl, rfl⟩
end Go.Proofs.YthbfppnegodpoaaGreatDoor
