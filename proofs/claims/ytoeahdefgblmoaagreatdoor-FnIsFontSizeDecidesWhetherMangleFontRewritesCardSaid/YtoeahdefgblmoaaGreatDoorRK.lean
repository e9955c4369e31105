/-
  atofHex: whatever its arguments.
-/
import Derived.Test.YtoeahdefgblmoaaGreatDoorRG0
import Derived.LaidEqlPtr
namespace Go.Proofs.YtoeahdefgblmoaaGreatDoor
open Go.RowKit Go.Deep Go.PlainAid Go.Maps Go.Sort

theorem run_bits (x : Int) (w : World) : (callFunc 74 #[.int .u64 x]).run Tryz.prog w = .ok (.value (.float .f64 x.toNat)) w := by
  rw [run_callFunc_extern Tryz.func74 (by kernel_rfl) (by kernel_rfl) (by kernel_rfl) (e := Extern.MathFloatBits.float64frombits) (by kernel_rfl)]
  rfl

/-- A number of 64 bits; any number; no error or some error. -/
def isM (v : Value) : Prop := ∃ n : Nat, n < 18446744073709551616 ∧ v = .int .u64 n
def isJ (v : Value) : Prop := ∃ x, v = .int .i64 x
def isE (v : Value) : Prop := v = .nilIface ∨ v = .iface 122 (.int .i64 1) ∨ v = .iface 122 (.int .i64 2)
def FEPost (w : World) (e : Ending) (w' : World) : Prop := (∃ x v, e = .returned (.tuple #[.float .f64 x, v]) ∧ isE v) ∧ Below w.heap.size w w'

theorem u64_rng (x : Int) : 0 ≤ IntKind.u64.wrap x ∧ IntKind.u64.wrap x < 18446744073709551616 := by rw [IntKind.wrap_u64]; omega
theorem isM_wrap (x : Int) : isM (.int .u64 (IntKind.u64.wrap x)) := by
  obtain ⟨h0, h1⟩ := u64_rng x
  exact ⟨(IntKind.u64.wrap x).toNat, by omega, by congr 1; omega⟩
theorem isM_bits (op : BinOp) (x y : Int) : isM (.int .u64 (bits op .u64 x y)) := isM_wrap _
theorem isM_of {x : Int} (h0 : 0 ≤ x) (h1 : x < 18446744073709551616) : isM (.int .u64 x) := ⟨x.toNat, by omega, by congr 1; omega⟩

theorem bor (a b : Nat) (ha : a < 18446744073709551616) (hb : b < 18446744073709551616) : bits .or .u64 (a : Int) (b : Int) = ((a ||| b : Nat) : Int) := by
  show IntKind.u64.wrap (((BitVec.ofInt 64 (a : Int) ||| BitVec.ofInt 64 (b : Int)).toNat : Nat) : Int) = _
  rw [BitVec.ofInt_natCast, BitVec.ofInt_natCast, BitVec.toNat_or, BitVec.toNat_ofNat, BitVec.toNat_ofNat, Nat.mod_eq_of_lt (by omega), Nat.mod_eq_of_lt (by omega), IntKind.wrap_u64]
  have : a ||| b < 2 ^ 64 := Nat.or_lt_two_pow (by omega) (by omega)
  omega
theorem or_one (a : Nat) : a ||| 1 ≤ a + 1 := by
  have h1 : (a ||| 1) / 2 = a / 2 := by rw [Nat.or_div_two]; simp
  omega
/-- One step to the right, the last bit kept. -/
theorem halve (n : Nat) (h : n < 18446744073709551616) : ∃ m : Nat, bits .or .u64 ((n : Int) / 2) (bits .and .u64 (n : Int) 1) = (m : Int) ∧ m < 18446744073709551616 ∧ (2 ≤ n → m < n) := by
  have e1 : bits .and .u64 (n : Int) 1 = ((n % 2 : Nat) : Int) := by
    have := band n 1 h (by decide)
    rw [show n &&& 1 = n % 2 from Nat.and_one_is_mod n] at this
    exact this
  have e2 : (n : Int) / 2 = ((n / 2 : Nat) : Int) := by omega
  rw [e1, e2, bor _ _ (by omega) (by omega)]
  have hle : n / 2 ||| n % 2 ≤ n / 2 + n % 2 := by
    rcases Nat.mod_two_eq_zero_or_one n with e | e
    · rw [e, Nat.or_zero]; omega
    · rw [e]; exact or_one _
  exact ⟨_, rfl, by omega, fun h2 => by omega⟩

theorem info162 : ∃ j, Tryz.prog.info? 162 = some j ∧ j.size ≠ 0 := by
  have h : (Tryz.prog.info? 162).map (·.size) = some 3 := by kernel_rfl
  obtain ⟨j, hj, hs⟩ := Option.map_eq_some_iff.1 h
  exact ⟨j, hj, by rw [hs]; decide⟩

set_option maxHeartbeats 2000000 in
set_option maxRecDepth 100000 in
theorem hex_any (s : ByteArray) (m : Nat) (x : Int) (ng tr : Bool) (w : World) (hm : m < 18446744073709551616) (b9 : ∃ c t, w.heap[9]? = some (.cells c t (0, 0))) (b11 : ∃ c t, w.heap[11]? = some (.cells c t (0, 0))) (i0 : w.cell? ⟨11, 0, none⟩ = some (.int .u64 52)) (i1 : w.cell? ⟨11, 1, none⟩ = some (.int .u64 11)) (i2 : w.cell? ⟨11, 2, none⟩ = some (.int .i64 (-1023))) :
    Calls Tryz.prog 66 #[.string s, .pointer (some ⟨11, 0, none⟩), .int .u64 m, .int .i64 x, .bool ng, .bool tr] w (FEPost w) := by
  have hfb := run_bits
  have hpe : ∀ W : World, W.heap = w.heap → (binOp .eql 160 (.pointer (some ⟨11, 0, none⟩)) (.pointer (some ⟨9, 0, none⟩))).run Tryz.prog W = .ok (.bool false) W := fun W hW => by
    obtain ⟨c1, t1, e1⟩ := b11
    obtain ⟨c2, t2, e2⟩ := b9
    obtain ⟨j, hj, hs⟩ := info162
    exact run_eql_ptr_other W Tryz.underlying160 hj hs (by decide) (by rw [hW]; exact e1) (by rw [hW]; exact e2)
  have hp2 := hpe w.drew.drew rfl
  have hp3 := hpe w.drew.drew.drew rfl
  go_enter Tryz.func66, Tryz.ntmps66
  go_wp2_with fail
  go_region
  go_upto_block 0 with fail
  go_cut [2, 3] (fun s2 s3 wx => isM s2 ∧ isJ s3 ∧ wx = w.drew)
  case first =>
    go_wp2_with fail
    go_loop [2, 3] (fun s2 s3 => isM s2 ∧ isJ s3) (fun s2 _ => 18014398509481984 - (intOf s2).toNat)
    case atStart => exact ⟨⟨m, hm, rfl⟩, ⟨_, rfl⟩⟩
    case round =>
      obtain ⟨⟨n, hn, rfl⟩, ⟨y, rfl⟩⟩ := hrel
      by_cases h0 : n = 0
      · subst h0
        go_wp2_with fail
        go_meet
        exact ⟨⟨0, by decide, rfl⟩, ⟨_, rfl⟩, rfl⟩
      · have h0' : ((n : Int) != 0) = true := by rw [bne_iff_ne]; omega
        by_cases h1 : n < 18014398509481984
        · have hq : ((n : Int) / 18014398509481984 == 0) = true := by rw [beq_iff_eq]; omega
          go_wp2_with fail
          exact ⟨⟨⟨n * 2, by omega, by go_num⟩, ⟨_, rfl⟩⟩, by simp [intOf]; omega⟩
        · have hq : ((n : Int) / 18014398509481984 == 0) = false := by rw [beq_eq_false_iff_ne]; omega
          go_wp2_with fail
          go_meet
          exact ⟨⟨n, hn, rfl⟩, ⟨_, rfl⟩, rfl⟩
  case rest =>
  obtain ⟨⟨n, hn, rfl⟩, ⟨y, rfl⟩, rfl⟩ := hcut
  go_upto_if 58 with fail
  go_cut [2] (fun s2 wx => isM s2 ∧ wx = w.drew)
  case first =>
    cases tr
    all_goals
      go_wp2_with fail
      go_meet
      first
        | exact ⟨⟨n, hn, rfl⟩, rfl⟩
        | exact ⟨isM_bits _ _ _, rfl⟩
  case rest =>
  obtain ⟨⟨n, hn, rfl⟩, rfl⟩ := hcut
  go_upto_block 2 with fail
  go_cut [2, 3] (fun s2 s3 wx => isM s2 ∧ isJ s3 ∧ wx = w.drew)
  case first =>
    go_wp2_with fail
    go_loop [2, 3] (fun s2 s3 => isM s2 ∧ isJ s3) (fun s2 _ => (intOf s2).toNat)
    case atStart => exact ⟨⟨n, hn, rfl⟩, ⟨_, rfl⟩⟩
    case round =>
      obtain ⟨⟨n, hn, rfl⟩, ⟨y, rfl⟩⟩ := hrel
      by_cases h1 : n < 36028797018963968
      · have hq : ((n : Int) / 36028797018963968 != 0) = false := by rw [bne_eq_false_iff_eq]; omega
        go_wp2_with fail
        go_meet
        exact ⟨⟨n, hn, rfl⟩, ⟨_, rfl⟩, rfl⟩
      · have hq : ((n : Int) / 36028797018963968 != 0) = true := by rw [bne_iff_ne]; omega
        obtain ⟨q, e1, e2, e3⟩ := halve n hn
        go_wp2_with fail
        exact ⟨⟨⟨q, e2, by go_num⟩, ⟨_, rfl⟩⟩, by simp [intOf]; omega⟩
  case rest =>
  obtain ⟨⟨n, hn, rfl⟩, ⟨y, rfl⟩, rfl⟩ := hcut
  go_upto_block 4 with fail
  go_cut [2, 3] (fun s2 s3 wx => isM s2 ∧ isJ s3 ∧ wx = w.drew)
  case first =>
    go_wp2_with fail
    go_loop [2, 3] (fun s2 s3 => isM s2 ∧ isJ s3) (fun s2 _ => (intOf s2).toNat)
    case atStart => exact ⟨⟨n, hn, rfl⟩, ⟨_, rfl⟩⟩
    case round =>
      obtain ⟨⟨n, hn, rfl⟩, ⟨y, rfl⟩⟩ := hrel
      by_cases h1 : n ≤ 1
      · have h1' : (n : Int) ≤ 1 := by omega
        go_wp2_with fail
        go_meet
        exact ⟨⟨n, hn, rfl⟩, ⟨_, rfl⟩, rfl⟩
      · have h1' : 1 < (n : Int) := by omega
        obtain ⟨q, e1, e2, e3⟩ := halve n hn
        by_cases h2 : y < -1024
        · go_wp2_with fail
          exact ⟨⟨⟨q, e2, by go_num⟩, ⟨_, rfl⟩⟩, by simp [intOf]; omega⟩
        · go_wp2_with fail
          go_meet
          exact ⟨⟨n, hn, rfl⟩, ⟨_, rfl⟩, rfl⟩
  case rest =>
  obtain ⟨⟨n, hn, rfl⟩, ⟨y, rfl⟩, rfl⟩ := hcut
  go_upto_if 103 with fail
  go_cut [2, 3] (fun s2 s3 wx => isM s2 ∧ isJ s3 ∧ wx = w.drew)
  case first =>
    go_wp2_with fail
    all_goals
      go_meet
      refine ⟨?_, ⟨_, rfl⟩, rfl⟩
      first
        | exact isM_of (by omega) (by omega)
        | exact isM_wrap _
  case rest =>
  obtain ⟨⟨n, hn, rfl⟩, ⟨y, rfl⟩, rfl⟩ := hcut
  go_upto_if 124 with fail
  go_cut [3] (fun s3 wx => isJ s3 ∧ wx = w.drew)
  case first =>
    go_wp2_with fail
    all_goals
      go_meet
      exact ⟨⟨_, rfl⟩, rfl⟩
  case rest =>
  obtain ⟨⟨y, rfl⟩, rfl⟩ := hcut
  go_upto_if 131 with fail
  go_cut [2, 3, 17] (fun s2 s3 s17 wx => isM s2 ∧ isJ s3 ∧ isE s17 ∧ wx = w.drew)
  case first =>
    go_wp2_with fail
    all_goals
      go_meet
      first
        | exact ⟨⟨n, hn, rfl⟩, ⟨_, rfl⟩, .inl rfl, rfl⟩
        | exact ⟨⟨_, by decide, rfl⟩, ⟨_, rfl⟩, .inr (.inl rfl), rfl⟩
  case rest =>
  obtain ⟨⟨n, hn, rfl⟩, ⟨y, rfl⟩, hE, rfl⟩ := hcut
  have HE := Lib.hid hE
  clear hE
  cases ng
  all_goals
    go_wp2_with fail
    go_region
    go_wp2_with fail
    try (go_region; go_wp2_with fail)
    go_ret2
    refine ⟨⟨_, _, rfl, HE.out⟩, ?_⟩
    first
      | exact (Below.refl _ _).drew.drew.drew
      | exact (Below.refl _ _).drew.drew
end Go.Proofs.YtoeahdefgblmoaaGreatDoor
