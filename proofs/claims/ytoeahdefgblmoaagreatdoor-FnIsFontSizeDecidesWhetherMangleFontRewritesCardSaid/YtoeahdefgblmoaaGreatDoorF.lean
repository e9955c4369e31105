/-
  The clone of a slice of bytes; the law's count of bytes; zzFontSame on two rows of the same tokens.
-/
import Derived.Test.YtoeahdefgblmoaaGreatDoorE
import Derived.Lib.Slices
namespace Go.Proofs.YtoeahdefgblmoaaGreatDoor
open Go.RowKit Go.Deep Go.PlainAid Go.Maps Go.Sort

theorem info5 : (Tryz.prog.info? 5).map (fun i => (i.zero, i.size, i.bytes)) = some (some (.int .u8 0), 1, 1) := by kernel_rfl

def Cloned (zs : List Int) (n : Nat) (w : World) (e : Ending) (w' : World) : Prop := ∃ a' c', e = .returned (.slice a' n c') ∧ U8s w' a' zs ∧ Below w.heap.size w w'
def Counted (n0 n4 n5 : Nat) (w : World) (e : Ending) (w' : World) : Prop := (∃ b, e = .returned (.bool b) ∧ (b = true → n0 ≤ 1048576 ∧ n4 ≤ 1048576 ∧ n5 ≤ 1048576)) ∧ w' = w

set_option maxHeartbeats 400000 in
theorem clone_any (a : Option Addr) (cap n : Nat) (zs : List Int) (w : World) (hn : n = zs.length) (hl : n ≤ 1048576) (hs : U8s w a zs) :
    Calls Tryz.prog 10 #[.slice a n cap] w (Cloned zs n w) := by
  rcases a with _ | ad
  · have h0 : zs = [] := by
      cases zs with
      | nil => rfl
      | cons x l => obtain ⟨b, off, e, _⟩ := hs 0 (by simp); cases e
    subst h0
    have q := fun (W : World) (n c : Nat) => Lib.run_eql_slice_nil (P := Tryz.prog) W 36 5 none n c 0 0 Tryz.underlying36
    simp only [List.length_nil] at hn
    subst hn
    clear hs
    go_enter Tryz.func10, Tryz.ntmps10
    go_wp2
    go_ret
    exact ⟨none, 0, rfl, (fun i h => by cases h), Below.refl _ _⟩
  · have HS := Lib.hid hs
    have HL := Lib.hid hn
    clear hs hn
    have q := fun (W : World) (n c : Nat) => Lib.run_eql_slice_nil (P := Tryz.prog) W 36 5 (some ad) n c 0 0 Tryz.underlying36
    have hmk := fun W => run_make_row' (P := Tryz.prog) 36 5 (Value.int .u8 0) 1 Tryz.underlying36 info5 rfl .i64 .i64 n (by omega) (by omega) W
    go_enter Tryz.func10, Tryz.ntmps10
    go_wp2
    go_loopw [4] (fun i wr => ∃ k : Nat, k ≤ n ∧ i = .int .i64 k ∧ Hid (wr.rowIs w.heap.size 5 n (fun j => if j < k then Value.int .u8 (zs.getD j 0) else Value.int .u8 0)) ∧ Hid (Below w.heap.size w wr)) (fun i _ => n - (intOf i).toNat)
    case atStart => exact ⟨0, by omega, rfl, (World.rowIs_made _ _ _ _).congr (fun i _ => by simp), (Below.refl _ _).alloc (Nat.le_refl _) _⟩
    case round =>
      obtain ⟨k, hk, rfl, hr, hb⟩ := hrel
      by_cases hlt : k < n
      · obtain ⟨b, off, e, hc, _, _⟩ := HS.out k (by rw [← HL.out]; exact hlt)
        injection e with e
        subst e
        obtain ⟨x, hsk⟩ : ∃ s, s = zs.getD k 0 := ⟨_, rfl⟩
        rw [← hsk] at hc
        have HX := Lib.hid hsk
        clear hsk
        have hcx : wr.cell? ⟨b, off + k, none⟩ = some (Value.int .u8 x) := cell_later hb.out hc
        have hrow : wr.cell? ⟨w.heap.size, k, none⟩ = some (Value.int .u8 0) := by rw [hr.out.cell hlt]; simp
        have hfz : wr.frozen? ⟨w.heap.size, k, none⟩ = false := hr.out.frozen k
        go_wp2
        go_roundw
        case rel => exact ⟨k + 1, by omega, by go_num, (hr.out.set k (Value.int .u8 x)).congr (fun j hj => by
          by_cases hjk : j = k
          · subst hjk; rw [if_pos rfl, if_pos (by omega), HX.out]
          · rw [if_neg hjk]
            by_cases h2 : j < k
            · rw [if_pos h2, if_pos (by omega)]
            · rw [if_neg h2, if_neg (by omega)]), hb.out.setCell (Nat.le_refl _) _⟩
        case measure => simp [intOf]; omega
      · obtain rfl : k = n := by omega
        go_wp2
        go_ret
        refine ⟨some ⟨w.heap.size, 0, none⟩, k, by rfl, fun i hi => ⟨w.heap.size, 0, rfl, ?_, ?_⟩, hb.out⟩
        · rw [Nat.zero_add, hr.out.cell (by rw [HL.out]; exact hi), if_pos (by rw [HL.out]; exact hi)]
        · obtain ⟨_, _, _, _, h⟩ := HS.out i hi
          exact h

set_option maxHeartbeats 1000000 in
theorem bytes_any (a0 a4 a5 : Option Addr) (c0 c4 c5 n0 n4 n5 : Nat) (z1 z3 : Int) (b2 b6 : Bool) (w : World) (h0 : n0 ≤ 9223372036854775807) (h4 : n4 ≤ 9223372036854775807) (h5 : n5 ≤ 9223372036854775807) :
    Calls Tryz.prog 9 #[.slice a0 n0 c0, .int .u8 z1, .bool b2, .int .u8 z3, .slice a4 n4 c4, .slice a5 n5 c5, .bool b6] w (Counted n0 n4 n5 w) := by
  by_cases k0 : n0 ≤ 1048576
  · have i0 : ¬ (1048576 : Int) < (n0 : Int) := by omega
    by_cases k4 : n4 ≤ 1048576
    · have i4 : ¬ (1048576 : Int) < (n4 : Int) := by omega
      by_cases k04 : n0 + n4 ≤ 1048576
      · have i04 : ¬ (1048576 : Int) < (n0 : Int) + (n4 : Int) := by omega
        by_cases k5 : n5 ≤ 1048576
        · have i5 : ¬ (1048576 : Int) < (n5 : Int) := by omega
          by_cases k045 : n0 + n4 + n5 ≤ 1048576
          · have i045 : ¬ (1048576 : Int) < (n0 : Int) + (n4 : Int) + (n5 : Int) := by omega
            go_enter Tryz.func9, Tryz.ntmps9
            go_wp2
            go_ret
            exact ⟨⟨_, rfl, fun _ => ⟨k0, k4, k5⟩⟩, rfl⟩
          · have i045 : (1048576 : Int) < (n0 : Int) + (n4 : Int) + (n5 : Int) := by omega
            go_enter Tryz.func9, Tryz.ntmps9
            go_wp2
            go_ret
            exact ⟨⟨_, rfl, fun _ => ⟨k0, k4, k5⟩⟩, rfl⟩
        · have i5 : (1048576 : Int) < (n5 : Int) := by omega
          go_enter Tryz.func9, Tryz.ntmps9
          go_wp2
          go_ret
          exact ⟨⟨false, rfl, fun h => absurd h Bool.false_ne_true⟩, rfl⟩
      · have i04 : (1048576 : Int) < (n0 : Int) + (n4 : Int) := by omega
        go_enter Tryz.func9, Tryz.ntmps9
        go_wp2
        go_ret
        exact ⟨⟨false, rfl, fun h => absurd h Bool.false_ne_true⟩, rfl⟩
    · have i4 : (1048576 : Int) < (n4 : Int) := by omega
      go_enter Tryz.func9, Tryz.ntmps9
      go_wp2
      go_ret
      exact ⟨⟨false, rfl, fun h => absurd h Bool.false_ne_true⟩, rfl⟩
  · have i0 : (1048576 : Int) < (n0 : Int) := by omega
    go_enter Tryz.func9, Tryz.ntmps9
    go_wp2
    go_ret
    exact ⟨⟨false, rfl, fun h => absurd h Bool.false_ne_true⟩, rfl⟩

set_option maxHeartbeats 2000000 in
set_option maxRecDepth 100000 in
theorem same_any (T1 T2 c1 c2 n : Nat) (l : List TK) (w : World) (hn : n = l.length) (hl : n ≤ 1000000) (h1 : RowAt w T1 c1 l) (h2 : RowAt w T2 c2 l) :
    Calls Tryz.prog 8 #[.slice (some ⟨T1, 0, none⟩) n c1, .slice (some ⟨T2, 0, none⟩) n c2] w fun e w' => e = .returned (.bool true) ∧ Below w.heap.size w w' := by
  have H := Lib.hid (And.intro h1 h2)
  have HN := Lib.hid hn
  clear h1 h2 hn
  go_enter Tryz.func8, Tryz.ntmps8
  go_wp2
  go_loopw [5] (fun i wr => ∃ k : Nat, k ≤ n ∧ i = .int .i64 k ∧ Hid (Below w.heap.size w wr)) (fun i _ => n - (intOf i).toNat)
  case atStart => exact ⟨0, by omega, rfl, Below.refl _ _⟩
  case round =>
    obtain ⟨k, hk, rfl, hb⟩ := hrel
    by_cases hlt : k < n
    · have hk' : k < l.length := by rw [← HN.out]; exact hlt
      obtain ⟨_, p1, _, _, _, p5, p6⟩ := (H.out.1.later hb.out).cells k hk'
      obtain ⟨_, q1, _, _, _, q5, q6⟩ := (H.out.2.later hb.out).cells k hk'
      generalize l[k] = t at p1 p5 p6 q1 q5 q6
      have hkn : (k : Int) < (n : Int) := by omega
      go_wp2_with fail
      go_region
      go_wp2_with fail
      exact ⟨⟨k + 1, by omega, by go_num, hb.out.drew⟩, by simp [intOf]; omega⟩
    · obtain rfl : k = n := by omega
      go_wp2
      go_ret
      exact ⟨rfl, hb.out⟩
end Go.Proofs.YtoeahdefgblmoaaGreatDoor
