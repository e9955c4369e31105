/-
  printRuleBlock over @layer rules.
-/
import Derived.Test.YtiplakadjkimmabGreatFmtN
namespace Go.Proofs.YtiplakadjkimmabGreatFmt
open Go.RowKit Go.Deep

/-- The rows of the rules, k of them set. -/
def rowL (R : Nat → Nat) (k j : Nat) : Value := if j % 2 = 1 then .int .i32 0 else if j / 2 < k then .iface 95 (.pointer (some ⟨R (j / 2), 0, none⟩)) else .nilIface

theorem rowL_set (R : Nat → Nat) (k p j : Nat) : (if j = k * 2 then Value.iface 95 (.pointer (some ⟨p, 0, none⟩)) else if j = k * 2 + 1 then .int .i32 0 else rowL R k j) = rowL (fun i => if i = k then p else R i) (k + 1) j := by
  unfold rowL
  by_cases h0 : j = k * 2
  · subst h0; rw [if_pos rfl, if_neg (by omega), if_pos (by omega)]; show _ = Value.iface 95 (.pointer (some ⟨if k * 2 / 2 = k then p else R (k * 2 / 2), 0, none⟩)); rw [if_pos (by omega)]
  · rw [if_neg h0]
    by_cases h1 : j = k * 2 + 1
    · subst h1; rw [if_pos rfl, if_pos (by omega)]
    · rw [if_neg h1]
      by_cases ho : j % 2 = 1
      · rw [if_pos ho, if_pos ho]
      · rw [if_neg ho, if_neg ho]
        by_cases h2 : j / 2 < k
        · rw [if_pos h2, if_pos (by omega)]; show _ = Value.iface 95 (.pointer (some ⟨if j / 2 = k then p else R (j / 2), 0, none⟩)); rw [if_neg (by omega)]
        · rw [if_neg h2, if_neg (by omega)]


theorem rowL_at0 (R : Nat → Nat) (n k : Nat) (h : k < n) : rowL R n (k * 2) = .iface 95 (.pointer (some ⟨R k, 0, none⟩)) := by
  unfold rowL
  rw [if_neg (by omega), if_pos (by omega), show k * 2 / 2 = k by omega]
theorem rowL_at1 (R : Nat → Nat) (n k : Nat) : rowL R n (k * 2 + 1) = .int .i32 0 := by
  unfold rowL
  rw [if_pos (by omega)]
theorem take_snoc2 (us : List ByteArray) (k : Nat) (h : k < us.length) : us.take (k + 1) = us.take k ++ [us.getD k ByteArray.empty] := by
  rw [List.take_succ_eq_append_getElem h, List.getD_eq_getElem?_getD, List.getElem?_eq_getElem h]; rfl
theorem allR_take_len (mn : Bool) (kk : Nat) (us : List ByteArray) (k : Nat) (hk : kk ≤ 65537) (ht : ∀ i, i < us.length → (us.getD i ByteArray.empty).size ≤ 1048576) : (allR mn kk (us.take k)).length ≤ us.length * 2000000 := by
  have h := allR_len mn kk (us.take k) hk (fun t htm => by
    obtain ⟨i, hi, e⟩ := List.mem_iff_getElem.1 (List.mem_of_mem_take htm)
    have h := ht i hi
    rw [List.getD_eq_getElem?_getD, List.getElem?_eq_getElem hi] at h
    rw [← e]; exact h)
  have h2 : (us.take k).length ≤ us.length := by rw [List.length_take]; omega
  exact Nat.le_trans h (Nat.mul_le_mul_right _ h2)

/-- The rules' data. -/
def Lays (B : Nat) (us : List ByteArray) (R S Q : Nat → Nat) (n : Nat) (w : World) : Prop := ∀ i, i < n → (R i < B ∧ S i < B ∧ Q i < B) ∧ Lay (R i) (S i) (Q i) (us.getD i ByteArray.empty) w

set_option maxHeartbeats 8000000 in
set_option maxRecDepth 100000 in
theorem block_any (B T n : Nat) (R S Q : Nat → Nat) (mn : Bool) (ft : Nat) (us : List ByteArray) (z : Int) (w : World) (hn : n ≤ 131072) (hl : us.length = n) (ht : ∀ i, i < n → (us.getD i ByteArray.empty).size ≤ 1048576)
    (hz : -2147483648 ≤ z) (hz2 : z ≤ 65536) (hTB : T < B) (hT : w.rowIs T 93 (n * 2) (rowL R n)) (hC : Lays B us R S Q n w) (h : Css B mn ft [] w) :
    Calls Tryz.prog 25 #[.pointer (some ⟨B, 0, none⟩), .slice (some ⟨T, 0, none⟩) n n, .int .i32 z, .agg #[.int .i32 0]] w fun e w' => e = .returned (.tuple #[]) ∧ Hid (Css B mn ft (blkR mn (z + 1).toNat z.toNat us) w') ∧ Hid (Below B w w') := by
  have hBs := h.lt
  have HT := Lib.hid hT
  have HC := Lib.hid hC
  have HL := Lib.hid hl
  have HS := Lib.hid ht
  have HTB := Lib.hid hTB
  have HBa := fun o => Lib.hid ((Below.refl B w).alloc (Nat.le_of_lt hBs) o)
  have HCa := fun o => Lib.hid (h.alloc o)
  have c6 := fun o => (HCa o).out.1.2.1.1
  have HAL : Hid (∀ k, (allR mn (z + 1).toNat (us.take k)).length ≤ 131072 * 2000000) := fun k => Nat.le_trans (allR_take_len mn _ us k (by omega) (fun i hi => ht i (by omega))) (by rw [hl]; exact Nat.mul_le_mul_right _ hn)
  clear hT hC hl ht hTB h
  obtain ⟨pre, epre⟩ : ∃ pre : List UInt8, pre = (if mn then [123] else [123, 10]) := ⟨_, rfl⟩
  have kpre : pre.length ≤ 2 := by rw [epre]; cases mn <;> simp
  have HP := Lib.hid epre
  clear epre
  go_enter Tryz.func25, Tryz.ntmps25
  go_upto_if 15 with fail
  go_cut [] (fun wx => Hid (Css B mn ft pre wx) ∧ Hid (Below B w wx))
  case first =>
    cases mn
    · go_wp2_with fail
      refine (print_lit B false ft [] ⟨#[123, 10]⟩ 2 _ (HCa _).out (by rfl) (by simp)).mono ?_
      rintro e W1 ⟨l1, rfl, E1, k1, H1, B1⟩
      go_wp2_with fail
      go_meet
      refine ⟨?_, (HBa _).out.trans B1.out.1⟩
      have e : pre = l1 := by rw [E1.out, HP.out]; rfl
      rw [e]; exact H1
    · go_wp2_with fail
      refine (print_lit B true ft [] ⟨#[123]⟩ 1 _ (HCa _).out (by rfl) (by simp)).mono ?_
      rintro e W1 ⟨l1, rfl, E1, k1, H1, B1⟩
      go_wp2_with fail
      go_meet
      refine ⟨?_, (HBa _).out.trans B1.out.1⟩
      have e : pre = l1 := by rw [E1.out, HP.out]; rfl
      rw [e]; exact H1
  case rest =>
  rename World => W0
  obtain ⟨H0, B0⟩ := hcut
  clear HBa HCa c6
  go_wp2_with fail
  go_loopw [22] (fun i wr => ∃ k : Nat, k ≤ n ∧ i = .int .i64 k ∧ Hid (Css B mn ft (pre ++ allR mn (z + 1).toNat (us.take k)) wr) ∧ Hid (Below B w wr)) (fun i _ => n - (intOf i).toNat)
  case atStart =>
    refine ⟨0, Nat.zero_le _, rfl, ?_, B0⟩
    show Css _ _ _ _ _
    rw [List.take_zero]
    simpa [allR] using H0.out
  case round =>
    obtain ⟨k, hk, rfl, hr, hb⟩ := hrel
    by_cases hlt : k < n
    · have hTl : T < w.heap.size := by
        obtain ⟨cur, hh, _⟩ := HT.out
        exact (Array.getElem?_eq_some_iff.1 hh).1
      have hrow : wr.rowIs T 93 (n * 2) (rowL R n) := by
        obtain ⟨cur, hh, h2⟩ := HT.out
        exact ⟨cur, (hb.out.block T HTB.out).trans hh, h2⟩
      have t0 : wr.cell? ⟨T, k * 2, none⟩ = some (.iface 95 (.pointer (some ⟨R k, 0, none⟩))) := by rw [hrow.cell (by omega), rowL_at0 _ _ _ hlt]
      have t1 : wr.cell? ⟨T, k * 2 + 1, none⟩ = some (.int .i32 0) := by rw [hrow.cell (by omega), rowL_at1]
      clear hrow hTl
      have hkn : (k : Int) < (n : Int) := by omega
      have hBs2 := hr.out.lt
      obtain ⟨pl, epl⟩ : ∃ pl, pl = pre ++ allR mn (z + 1).toNat (us.take k) := ⟨_, rfl⟩
      have hpl : pl.length ≤ 300000000000 := by
        have := HAL.out k
        rw [epl, List.length_append]; omega
      rw [← epl] at hr
      have HPL := Lib.hid epl
      obtain ⟨⟨r1, r2, r3⟩, hlay⟩ := HC.out k hlt
      have HR := Lib.hid (And.intro r1 (And.intro r2 r3))
      have HLA := fun o => Lib.hid (hlay.below (hb.out.alloc (Nat.le_of_lt hBs2) o) r1 r2 r3)
      have HCA := fun o => Lib.hid (hr.out.alloc o)
      have HBA := fun o => Lib.hid (hb.out.alloc (Nat.le_of_lt hBs2) o)
      have HKS := Lib.hid (HS.out k hlt)
      have c6 := fun o => (HCA o).out.1.2.1.1
      clear epl r1 r2 r3 hlay
      obtain ⟨om, eom⟩ : ∃ om : Bool, om = (mn && ((k : Int) + 1 == (n : Int))) := ⟨_, rfl⟩
      cases mn
      all_goals
        go_wp2_with (first | (go_at_call 22; refine (layer_any B (R k) (S k) (Q k) _ ft pl (us.getD k ByteArray.empty) (z + 1) _ _ HR.out.1 HR.out.2.1 HR.out.2.2 (HLA _).out (HCA _).out (by omega) (by omega) (by omega) HKS.out).mono ?_; rintro e w' ⟨rfl, hC', hB'⟩; have HC' := Lib.hid hC'.out; have HB' := Lib.hid hB'.out; clear hC' hB') | fail)
        go_roundw
        case rel =>
          refine ⟨k + 1, by omega, by go_num, ?_, (HBA _).out.trans HB'.out⟩
          show Css _ _ _ _ _
          rw [take_snoc2 us k (by rw [HL.out]; exact hlt), allR_snoc, ← List.append_assoc, ← HPL.out]
          exact HC'.out
        case measure => simp [intOf]; omega
    · obtain rfl : k = n := by omega
      have hkn : ¬ (k : Int) < (k : Int) := by omega
      obtain ⟨pl, epl⟩ : ∃ pl, pl = pre ++ allR mn (z + 1).toNat (us.take k) := ⟨_, rfl⟩
      have hpl : pl.length ≤ 300000000000 := by
        have := HAL.out k
        rw [epl, List.length_append]; omega
      rw [← epl] at hr
      have HPL : Hid (pl = pre ++ allR mn (z + 1).toNat us) := by
        show _ = _
        rw [epl, List.take_of_length_le (by rw [HL.out]; omega)]
      clear epl
      have c6 := hr.out.1.2.1.1
      have c9 := hr.out.1.2.2.1
      cases mn
      · go_wp2_with fail
        refine (indent_any B false ft pl z wr hr.out hz (by omega) (by omega)).mono ?_
        rintro e W1 ⟨rfl, H1, B1⟩
        obtain ⟨l1, e1⟩ : ∃ l1, l1 = pl ++ List.replicate (2 * z.toNat) (32 : UInt8) := ⟨_, rfl⟩
        have k1 : l1.length ≤ pl.length + 140000 := by rw [e1, List.length_append, List.length_replicate]; omega
        rw [← e1] at H1
        have E1 := Lib.hid e1
        clear e1
        go_wp2_with fail
        refine (print_lit B false ft l1 ⟨#[125]⟩ 1 W1 H1.out (by rfl) (by omega)).mono ?_
        rintro e W2 ⟨l2, rfl, E2, k2, H2, B2⟩
        go_wp2_with fail
        refine bodyPost_end (v := .tuple #[]) (by simp [results, Tryz.results25, go_sem]) rfl ?_
        refine ⟨rfl, ?_, (hb.out.trans B1.out.1).trans B2.out.1⟩
        have e : blkR false (z + 1).toNat z.toNat us = l2 := by
          rw [E2.out, E1.out, HPL.out, HP.out]
          simp [blkR]
        show Css _ _ _ _ _
        rw [e]
        exact H2.out
      · go_wp2_with fail
        refine (print_lit B true ft pl ⟨#[125]⟩ 1 wr hr.out (by rfl) (by omega)).mono ?_
        rintro e W2 ⟨l2, rfl, E2, k2, H2, B2⟩
        go_wp2_with fail
        refine bodyPost_end (v := .tuple #[]) (by simp [results, Tryz.results25, go_sem]) rfl ?_
        refine ⟨rfl, ?_, hb.out.trans B2.out.1⟩
        have e : blkR true (z + 1).toNat z.toNat us = l2 := by
          rw [E2.out, HPL.out, HP.out]
          simp [blkR]
        show Css _ _ _ _ _
        rw [e]
        exact H2.out
end Go.Proofs.YtiplakadjkimmabGreatFmt
