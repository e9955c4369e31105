/-
  zzCalcName: calc in whatever case.
-/
import Derived.Test.YthbfppnegodpoaaGreatDoorL
import Derived.Test.YthbfppnegodpoaaGreatDoorG
namespace Go.Proofs.YthbfppnegodpoaaGreatDoor
open Go.RowKit Go.Deep Go.PlainAid

def calcB (j : Nat) : Int := if j = 0 then 99 else if j = 1 then 97 else if j = 2 then 108 else 99

set_option maxHeartbeats 4000000 in
set_option maxRecDepth 100000 in
theorem name_any (c : Int) (w : World) (_h0 : 0 ≤ c) (_h1 : c ≤ 255) : Calls Tryz.prog 16 #[.int .u8 c] w fun e w' => ∃ x : Nat → Int, e = .returned (.string (strOfNums [x 0, x 1, x 2, x 3])) ∧ (∀ j, j < 4 → x j = calcB j ∨ x j = calcB j - 32) ∧ Below w.heap.size w w' := by
  go_enter Tryz.func16, Tryz.ntmps16
  go_wp2_with fail
  go_loopw [4] (fun i wr => ∃ (j : Nat) (x : Nat → Int), j ≤ 4 ∧ i = .int .i64 j ∧ Hid (wr.rowIs w.heap.size 5 4 (fun k => .int .u8 (x k))) ∧ Hid (∀ k, k < 4 → (x k = calcB k ∨ (k < j ∧ x k = calcB k - 32))) ∧ Hid (Below w.heap.size w wr)) (fun i _ => 4 - (intOf i).toNat)
  case atStart =>
    refine ⟨0, calcB, by omega, rfl, ?_, fun k hk => .inl rfl, (Below.refl _ _).alloc (Nat.le_refl _) _⟩
    exact World.rowIs_alloc w #[.int .u8 99, .int .u8 97, .int .u8 108, .int .u8 99] 5 (fun k => .int .u8 (calcB k)) (fun i hi => by
      have hi : i < 4 := hi
      match i, hi with
      | 0, _ => rfl
      | 1, _ => rfl
      | 2, _ => rfl
      | 3, _ => rfl)
  case round =>
    obtain ⟨j, x, hj, rfl, hr, hx, hb⟩ := hrel
    by_cases hlt : j < 4
    · have hji : (j : Int) < 4 := by omega
      have c0 := hr.out.cell hlt
      have cf := hr.out.frozen j
      have hxj : x j = calcB j := by
        rcases hx.out j hlt with h | ⟨h, _⟩
        · exact h
        · omega
      have HXJ := Lib.hid hxj
      have hcb : 97 ≤ calcB j ∧ calcB j ≤ 108 := by
        unfold calcB
        repeat' split
        all_goals omega
      rw [hxj] at c0
      clear hxj
      go_wp2_with fail
      · refine ⟨⟨j + 1, fun k => if k = j then calcB j - 32 else x k, by omega, by go_num, ?_, fun k hk => ?_, hb.out.setCell (Nat.le_refl _) _⟩, by simp [intOf]; omega⟩
        · exact (hr.out.set j _).congr (fun k _ => by
            dsimp only
            by_cases e : k = j
            · rw [if_pos e, if_pos e]
            · rw [if_neg e, if_neg e])
        · dsimp only
          by_cases e : k = j
          · subst e
            rw [if_pos rfl]
            exact .inr ⟨by omega, rfl⟩
          · rw [if_neg e]
            rcases hx.out k hk with h | ⟨h, h'⟩
            · exact .inl h
            · exact .inr ⟨by omega, h'⟩
      · refine ⟨⟨j + 1, x, by omega, by go_num, hr.out, fun k hk => ?_, hb.out⟩, by simp [intOf]; omega⟩
        rcases hx.out k hk with h | ⟨h, h'⟩
        · exact .inl h
        · exact .inr ⟨by omega, h'⟩
    · obtain rfl : j = 4 := by omega
      have hcv := run_convert_bytes_arg (P := Tryz.prog) wr 68 5 Tryz.underlying68 Tryz.underlying5 w.heap.size 0 4 4 [x 0, x 1, x 2, x 3] rfl (fun i hi => by
        rw [Nat.zero_add, hr.out.cell hi]
        match i, hi with
        | 0, _ => rfl
        | 1, _ => rfl
        | 2, _ => rfl
        | 3, _ => rfl) 9 Tryz.underlying9
      go_wp2_with fail
      go_ret
      refine ⟨x, rfl, fun k hk => ?_, hb.out⟩
      rcases hx.out k hk with h | ⟨_, h⟩
      · exact .inl h
      · exact .inr h

def calcW : ByteArray := ⟨#[99, 97, 108, 99]⟩
theorem name_calc {x : Nat → Int} (hx : ∀ j, j < 4 → x j = calcB j ∨ x j = calcB j - 32) : FoldEq (strOfNums [x 0, x 1, x 2, x 3]) calcW := by
  have hr : ∀ y ∈ [x 0, x 1, x 2, x 3], (0 : Int) ≤ y ∧ y ≤ 255 := fun y hy => by
    have h0 := hx 0 (by omega)
    have h1 := hx 1 (by omega)
    have h2 := hx 2 (by omega)
    have h3 := hx 3 (by omega)
    simp [calcB] at h0 h1 h2 h3
    simp only [List.mem_cons, List.not_mem_nil, or_false] at hy
    omega
  refine ⟨rfl, fun i hi => ?_⟩
  have hi : i < 4 := hi
  rw [bt_nums _ hr i hi]
  have h := hx i hi
  match i, hi with
  | 0, _ => simp [calcB] at h; have e : bt calcW 0 = 99 := by decide
            show low (x 0) = _; rw [e]; unfold low; split <;> split <;> omega
  | 1, _ => simp [calcB] at h; have e : bt calcW 1 = 97 := by decide
            show low (x 1) = _; rw [e]; unfold low; split <;> split <;> omega
  | 2, _ => simp [calcB] at h; have e : bt calcW 2 = 108 := by decide
            show low (x 2) = _; rw [e]; unfold low; split <;> split <;> omega
  | 3, _ => simp [calcB] at h; have e : bt calcW 3 = 99 := by decide
            show low (x 3) = _; rw [e]; unfold low; split <;> split <;> omega
theorem name_var {x : Nat → Int} (v : ByteArray) (hv : v.size = 3) : ¬ FoldEq (strOfNums [x 0, x 1, x 2, x 3]) v := fun h => by
  have h4 : (strOfNums [x 0, x 1, x 2, x 3]).size = 4 := rfl
  have := h.1
  omega
end Go.Proofs.YthbfppnegodpoaaGreatDoor
