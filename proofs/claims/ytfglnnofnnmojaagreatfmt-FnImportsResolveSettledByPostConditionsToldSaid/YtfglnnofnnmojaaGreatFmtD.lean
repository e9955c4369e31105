/-
  Contracts, fourth part: the resolver's own functions.
-/
import Derived.Test.YtfglnnofnnmojaaGreatFmtC
import Derived.RegionTactic
import Derived.ChangeAlike
namespace Go.Proofs.YtfglnnofnnmojaaGreatFmt
open Go.RowKit Go.Maps Go.Deep

set_option maxHeartbeats 1000000 in
theorem suffix31 (s p : ByteArray) (w : World) (hs : s.size ≤ 9223372036854775807) :
    Calls Tryz.prog 31 #[.string s, .string p] w fun e w' => e = .returned (.bool (Lib.hasSuffix s.data.toList p.data.toList)) ∧ w = w' := by
  rw [← Lib.hasSuffix_raw]
  have hlo : p.size ≤ s.size → ((s.size : Int) - (p.size : Int) + 9223372036854775808) % 18446744073709551616 - 9223372036854775808 = ((s.size - p.size : Nat) : Int) := fun _ => by omega
  go_enter Tryz.func31, Tryz.ntmps31
  go_wp2
  · have h : p.size ≤ s.size := by assumption
    go_ret
    refine ⟨?_, rfl⟩
    show Ending.returned (Value.bool ((s.extract (s.size - p.size) s.size).toList == p.toList)) = _
    simp [h]
  · have h : ¬ p.size ≤ s.size := by assumption
    go_ret
    refine ⟨?_, rfl⟩
    show Ending.returned (Value.bool false) = _
    simp [h]

theorem suffix24 (s p : ByteArray) (w : World) (hs : s.size ≤ 9223372036854775807) :
    Calls Tryz.prog 24 #[.string s, .string p] w fun e w' => e = .returned (.bool (Lib.hasSuffix s.data.toList p.data.toList)) ∧ w = w' := by
  go_enter Tryz.func24, Tryz.ntmps24
  go_wp2_with fail
  refine (suffix31 _ _ _ hs).mono ?_
  rintro e w' ⟨rfl, rfl⟩
  go_wp2_with fail
  go_ret
  exact ⟨rfl, rfl⟩

set_option maxHeartbeats 1000000 in
set_option maxRecDepth 100000 in
theorem index32 (s : ByteArray) (c : Int) (w : World) :
    Calls Tryz.prog 32 #[.string s, .int .u8 c] w fun e w' => e = .returned (.int .i64 (Lib.indexByte s.data.toList c.toNat.toUInt8)) ∧ w = w' := by
  go_enter Tryz.func32, Tryz.ntmps32
  go_wp2
  rw [run_callFunc_extern Tryz.func48 (by kernel_rfl) (by kernel_rfl) (by kernel_rfl) (e := Extern.BytealgIndexByte.indexByte) (by kernel_rfl), Lib.run_indexByteString]
  simp only [Result.andThen]
  rw [Oper.upon_value]
  go_wp2
  go_ret
  exact ⟨rfl, rfl⟩

theorem index25 (s : ByteArray) (c : Int) (w : World) :
    Calls Tryz.prog 25 #[.string s, .int .u8 c] w fun e w' => e = .returned (.int .i64 (Lib.indexByte s.data.toList c.toNat.toUInt8)) ∧ w = w' := by
  go_enter Tryz.func25, Tryz.ntmps25
  go_wp2_with fail
  refine (index32 _ _ _).mono ?_
  rintro e w' ⟨rfl, rfl⟩
  go_wp2_with fail
  go_ret
  exact ⟨rfl, rfl⟩

theorem undef_any (n : Int) (w : World) (h : 2 ≤ n) : Calls Tryz.prog 10 #[.int .u8 n] w fun e w' => e = .returned (.bool false) ∧ w = w' := by
  have h0 : (n == 0) = false := by simp; omega
  have h1 : (n == 1) = false := by simp; omega
  go_enter Tryz.func10, Tryz.ntmps10
  go_wp2
  go_ret
  exact ⟨rfl, rfl⟩

theorem below_drewN {B : Nat} {a w : World} (h : Below B a w) (n : Nat) : Below B a (w.drewN n) := ⟨h.os, h.tape, h.output, h.size, h.block⟩

/-- The receiver: nothing in it. -/
def rq : Array Value := #[.pointer none, .pointer none, .pointer none, .int .u8 0]

set_option maxHeartbeats 1000000 in
/-- The post-conditions at a status that does not concern them. -/
theorem post17 (s b : ByteArray) (n t1 t2 : Int) (isn : Bool) (w : World) (hn : 6 ≤ n) :
    Calls Tryz.prog 17 #[.agg rq, .string s, .int .u8 n, .agg #[.string b, .slice none 0 0, .int .i32 t1, .int .i32 t2, .bool isn]] w fun e w' =>
      e = .returned (.tuple #[.string s, .int .u8 n, .agg #[.string b, .slice none 0 0, .int .i32 t1, .int .i32 t2, .bool isn]]) ∧ Below w.heap.size w w' := by
  have h3 : (n == 3) = false := by simp; omega
  have h4 : (n == 4) = false := by simp; omega
  have h5 : (n == 5) = false := by simp; omega
  have g3 : (n != 3) = true := by simp; omega
  have g4 : (n != 4) = true := by simp; omega
  have g5 : (n != 5) = true := by simp; omega
  unfold rq
  go_enter Tryz.func17, Tryz.ntmps17
  go_wp2
  go_region
  all_goals
    go_wp2
    refine bodyPost_ret (v := .tuple #[.string s, .int .u8 n, .agg #[.string b, .slice none 0 0, .int .i32 t1, .int .i32 t2, .bool isn]]) (by simp [results, Tryz.results17, go_sem]) rfl ⟨rfl, ?_⟩
    go_grown

set_option maxHeartbeats 1000000 in
theorem post11 (s b : ByteArray) (n t1 t2 : Int) (isn : Bool) (w : World) (hn : 6 ≤ n) :
    Calls Tryz.prog 11 #[.string s, .int .u8 n, .string b, .int .i32 t1, .int .i32 t2, .bool isn] w fun e w' =>
      e = .returned (.tuple #[.string s, .int .u8 n, .string b, .int .i32 t1, .int .i32 t2, .bool isn]) ∧ Below w.heap.size w w' := by
  have H := Lib.hid (fun W => post17 s b n t1 t2 isn W hn)
  go_enter Tryz.func11, Tryz.ntmps11
  go_wp2_with fail
  refine (H.out _).mono ?_
  rintro e w' ⟨rfl, hb⟩
  go_wp2
  go_quiet (fail)
  go_wp2
  have hb0 : Below w.heap.size w w' := ((Below.refl _ _).alloc (Nat.le_refl _) _).trans (hb.mono (by simp))
  refine bodyPost_ret (v := .tuple #[.string s, .int .u8 n, .string b, .int .i32 t1, .int .i32 t2, .bool isn]) (by simp [results, Tryz.results11, go_sem]) rfl ⟨rfl, ?_⟩
  exact below_drewN (hb0.alloc hb0.size _) _
end Go.Proofs.YtfglnnofnnmojaaGreatFmt
