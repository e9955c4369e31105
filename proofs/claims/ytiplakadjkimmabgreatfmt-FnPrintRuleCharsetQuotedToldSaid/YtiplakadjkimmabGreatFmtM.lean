/-
  The law FnRuleBlockMinifiedIsPrettyWithoutLayout: the functions beside the printer.
-/
import Derived.Test.YtiplakadjkimmabGreatFmtL
import Derived.Test.YtiplakadjkimmabGreatFmtD
namespace Go.Proofs.YtiplakadjkimmabGreatFmt
open Go.RowKit Go.Deep Go.PlainAid

set_option maxHeartbeats 400000 in
theorem clone2_strings (a : Option Addr) (cap : Nat) (xs : List ByteArray) (w : World) (hs : Slc Value.string ByteArray.empty w a xs) (hl : xs.length ≤ 1048576) :
    Calls Tryz.prog 13 #[.slice a xs.length cap] w (Cloned Value.string ByteArray.empty xs w) := by
  rcases a with _ | ad
  · have h0 : xs = [] := by
      cases xs with
      | nil => rfl
      | cons x l => obtain ⟨b, off, e, _⟩ := hs 0 (by simp); cases e
    subst h0
    have q := fun (W : World) (n c : Nat) => Lib.run_eql_slice_nil (P := Tryz.prog) W 25 9 none n c 0 0 Tryz.underlying25
    go_enter Tryz.func13, Tryz.ntmps13
    go_wp2
    go_ret
    exact ⟨none, 0, rfl, (fun i h => by cases h), Below.refl _ _⟩
  · have HS := Lib.hid hs
    clear hs
    obtain ⟨len, hlen⟩ : ∃ len, len = xs.length := ⟨_, rfl⟩
    rw [← hlen] at hl ⊢
    have HL := Lib.hid hlen
    clear hlen
    have q := fun (W : World) (n c : Nat) => Lib.run_eql_slice_nil (P := Tryz.prog) W 25 9 (some ad) n c 0 0 Tryz.underlying25
    have hmk := fun W => run_make_row' (P := Tryz.prog) 25 9 (Value.string ⟨#[]⟩) 16 Tryz.underlying25 info9 rfl .i64 .i64 len (by omega) (by omega) W
    go_enter Tryz.func13, Tryz.ntmps13
    go_wp2
    go_loopw [4] (fun i wr => ∃ k : Nat, k ≤ len ∧ i = .int .i64 k ∧ Hid (wr.rowIs w.heap.size 9 len (fun j => if j < k then Value.string (xs.getD j ByteArray.empty) else Value.string ⟨#[]⟩)) ∧ Hid (Below w.heap.size w wr)) (fun i _ => len - (intOf i).toNat)
    case atStart => exact ⟨0, by omega, rfl, (World.rowIs_made _ _ _ _).congr (fun i _ => by simp), (Below.refl _ _).alloc (Nat.le_refl _) _⟩
    case round =>
      obtain ⟨k, hk, rfl, hr, hb⟩ := hrel
      by_cases hlt : k < len
      · obtain ⟨b, off, e, hc⟩ := HS.out k (by rw [← HL.out]; exact hlt)
        injection e with e
        subst e
        obtain ⟨x, hsk⟩ : ∃ s, s = xs.getD k ByteArray.empty := ⟨_, rfl⟩
        rw [← hsk] at hc
        have HX := Lib.hid hsk
        clear hsk
        have hcx : wr.cell? ⟨b, off + k, none⟩ = some (Value.string x) := cell_later hb.out hc
        have hrow : wr.cell? ⟨w.heap.size, k, none⟩ = some (Value.string ⟨#[]⟩) := by rw [hr.out.cell hlt]; simp
        have hfz : wr.frozen? ⟨w.heap.size, k, none⟩ = false := hr.out.frozen k
        go_wp2
        go_roundw
        case rel => exact ⟨k + 1, by omega, by go_num, (hr.out.set k (Value.string x)).congr (fun j hj => by
          by_cases hjk : j = k
          · subst hjk; rw [if_pos rfl, if_pos (by omega), HX.out]
          · rw [if_neg hjk]
            by_cases h2 : j < k
            · rw [if_pos h2, if_pos (by omega)]
            · rw [if_neg h2, if_neg (by omega)]), hb.out.setCell (Nat.le_refl _) _⟩
        case measure => simp [intOf]; omega
      · obtain rfl : k = len := by omega
        go_wp2
        go_ret
        exact ⟨some ⟨w.heap.size, 0, none⟩, k, by rw [← HL.out]; rfl, fun i hi => ⟨w.heap.size, 0, rfl, by
          rw [Nat.zero_add, hr.out.cell (by rw [HL.out]; exact hi), if_pos (by rw [HL.out]; exact hi)]⟩, hb.out⟩



set_option maxRecDepth 100000 in
set_option maxHeartbeats 1000000 in
/-- zzBytes: where it says yes, the slice and the texts are short. -/
theorem zz9_any (a0 : Option Addr) (n0 c0 : Nat) (z0 : Int) (us : List ByteArray) (w : World) (h0 : n0 ≤ 9223372036854775807) (hl : us.length = n0) (hu : Slc Value.string ByteArray.empty w a0 us) :
    Calls Tryz.prog 9 #[.slice a0 n0 c0, .int .i32 z0] w (SomeBool (fun b => b = true → n0 ≤ 1048576 ∧ ∀ i, i < n0 → (us.getD i ByteArray.empty).size ≤ 1048576) w) := by
  have HU := Lib.hid hu
  have HL := Lib.hid hl
  clear hu hl
  by_cases hn0 : (1048576 : Int) < (n0 : Int)
  · go_enter Tryz.func9, Tryz.ntmps9
    go_wp2_with fail
    go_ret
    exact ⟨false, (fun h => by cases h), rfl, rfl⟩
  go_enter Tryz.func9, Tryz.ntmps9
  go_wp2_with fail
  go_loop [5, 6] (fun z i => ∃ (k m : Nat), k ≤ n0 ∧ m ≤ 1048576 ∧ z = .int .i64 m ∧ i = .int .i64 (k : Int) ∧ ∀ j, j < k → (us.getD j ByteArray.empty).size ≤ 1048576) (fun _ i => n0 - (intOf i).toNat)
  case atStart => exact ⟨0, n0, by omega, by omega, rfl, rfl, fun j hj => by omega⟩
  case round =>
    obtain ⟨k, m, hk, hm, rfl, rfl, hpre⟩ := hrel
    have HP := Lib.hid hpre
    clear hpre
    by_cases hlk : k < n0
    · obtain ⟨b, o, e, hc⟩ := HU.out k (by rw [HL.out]; exact hlk)
      subst e
      obtain ⟨u, eu⟩ : ∃ u, u = us.getD k ByteArray.empty := ⟨_, rfl⟩
      rw [← eu] at hc
      have HE := Lib.hid eu
      clear eu
      have k1 : (k : Int) < (n0 : Int) := by omega
      by_cases hb : (1048576 : Int) < (u.size : Int)
      · go_wp2_with fail
        go_ret
        exact ⟨false, (fun h => by cases h), rfl, rfl⟩
      · by_cases hb2 : (1048576 : Int) < (m : Int) + (u.size : Int)
        · go_wp2_with fail
          go_ret
          exact ⟨false, (fun h => by cases h), rfl, rfl⟩
        · go_wp2_with fail
          go_round
          case rel => exact ⟨k + 1, m + u.size, by omega, by omega, by go_num, by go_num, fun j hj => by
            rcases Nat.lt_or_ge j k with h | h
            · exact HP.out j h
            · obtain rfl : j = k := by omega
              rw [← HE.out]; omega⟩
          case measure => simp [intOf]; omega
    · obtain rfl : k = n0 := by omega
      go_wp2_with fail
      all_goals
        go_ret
        exact ⟨_, fun h => by first | (cases h; done) | exact ⟨by omega, HP.out⟩, rfl, rfl⟩

set_option maxRecDepth 100000 in
set_option maxHeartbeats 1000000 in
/-- zzSumLen answers a number. -/
theorem namesb_any (a0 : Option Addr) (n0 c0 : Nat) (us : List ByteArray) (w : World) (h0 : n0 ≤ 131072) (hl : us.length = n0) (hs : ∀ i, i < n0 → (us.getD i ByteArray.empty).size ≤ 1048576) (hu : Slc Value.string ByteArray.empty w a0 us) :
    Calls Tryz.prog 10 #[.slice a0 n0 c0] w (SomeInt (fun _ => True) w) := by
  have HU := Lib.hid hu
  have HL := Lib.hid hl
  have HS := Lib.hid hs
  clear hu hl hs
  go_enter Tryz.func10, Tryz.ntmps10
  go_wp2_with fail
  go_loop [3, 4] (fun z i => ∃ (k m : Nat), k ≤ n0 ∧ m ≤ 2097152 + k * 1048576 ∧ z = .int .i64 m ∧ i = .int .i64 (k : Int)) (fun _ i => n0 - (intOf i).toNat)
  case atStart => exact ⟨0, n0 * 16, by omega, by omega, by go_num, rfl⟩
  case round =>
    obtain ⟨k, m, hk, hm, rfl, rfl⟩ := hrel
    by_cases hlk : k < n0
    · obtain ⟨b, o, e, hc⟩ := HU.out k (by rw [HL.out]; exact hlk)
      subst e
      have hsk := HS.out k hlk
      obtain ⟨u, eu⟩ : ∃ u, u = us.getD k ByteArray.empty := ⟨_, rfl⟩
      rw [← eu] at hc hsk
      clear eu
      have k3 : (k : Int) < (n0 : Int) := by omega
      have hk2 : k * 1048576 ≤ 131072 * 1048576 := by omega
      go_wp2_with fail
      go_round
      case rel => exact ⟨k + 1, m + u.size, by omega, by omega, by go_num, by go_num⟩
      case measure => simp [intOf]; omega
    · obtain rfl : k = n0 := by omega
      go_wp2_with fail
      go_ret
      exact ⟨_, trivial, rfl, rfl⟩


/-- b2Levels without a limit. -/
theorem levels_any (z : Int) (w : World) (h0 : -2147483648 ≤ z) (h1 : z ≤ 2147483647) : Calls Tryz.prog 11 #[.int .i32 z, .int .i64 0] w (SomeInt (fun n => n = (z.toNat : Int)) w) := by
  by_cases hz : z < 0
  · go_enter Tryz.func11, Tryz.ntmps11
    go_wp2_with fail
    go_ret
    exact ⟨0, by omega, rfl, rfl⟩
  · go_enter Tryz.func11, Tryz.ntmps11
    go_wp2_with fail
    go_ret
    exact ⟨z, by omega, rfl, rfl⟩

theorem bt_ten {s : ByteArray} {c : UInt8} (hc : c ∈ s.data.toList) (h : ∀ j, j < s.size → bt s j ≠ 10) : c ≠ 10 := by
  obtain ⟨j, hj, e⟩ := List.mem_iff_getElem.1 hc
  have hj' : j < s.size := by rw [← bs_len]; exact hj
  intro e10
  have h2 := h j hj'
  unfold bt at h2
  rw [dif_pos hj'] at h2
  apply h2
  have e3 : s[j]'hj' = c := by rw [← e]; rfl
  rw [e3, e10]
  rfl

set_option maxRecDepth 100000 in
set_option maxHeartbeats 1000000 in
/-- b2CountNewlines: nought where there is none. -/
theorem newl_any (s : ByteArray) (w : World) (hs : s.size ≤ 1048576) : Calls Tryz.prog 12 #[.string s] w (SomeInt (fun n => n = 0 → ∀ c ∈ s.data.toList, c ≠ 10) w) := by
  have hb := get_bt s
  have H0 := Lib.hid hs
  clear hs
  go_enter Tryz.func12, Tryz.ntmps12
  go_wp2_with fail
  go_loop [3, 4] (fun z i => ∃ k m : Nat, k ≤ s.size ∧ m ≤ k ∧ z = .int .i64 (m : Int) ∧ i = .int .i64 (k : Int) ∧ (m = 0 → ∀ j, j < k → bt s j ≠ 10)) (fun _ i => s.size - (intOf i).toNat)
  case atStart => exact ⟨0, 0, by omega, by omega, rfl, rfl, fun _ j hj => by omega⟩
  case round =>
    obtain ⟨k, m, hk, hm, rfl, rfl, hpre⟩ := hrel
    have HP := Lib.hid hpre
    have hs0 := H0.out
    clear hpre
    by_cases hlt : k < s.size
    · have k1 : (k : Int) < (s.size : Int) := by omega
      obtain ⟨x, hx⟩ : ∃ x : Int, bt s k = x := ⟨_, rfl⟩
      have HX := Lib.hid hx
      by_cases h10 : x = 10
      · have e1 : (x == 10) = true := by simpa using h10
        go_wp2_with fail
        go_round
        case rel => exact ⟨k + 1, m + 1, by omega, by omega, by go_num, by go_num, fun h => by omega⟩
        case measure => simp [intOf]; omega
      · have e1 : (x == 10) = false := by simpa using h10
        go_wp2_with fail
        go_round
        case rel => exact ⟨k + 1, m, by omega, by omega, rfl, by go_num, fun h j hj => by
          rcases Nat.lt_or_ge j k with h' | h'
          · exact HP.out h j h'
          · obtain rfl : j = k := by omega
            rw [HX.out]; exact h10⟩
        case measure => simp [intOf]; omega
    · obtain rfl : k = s.size := by omega
      go_wp2_with fail
      go_ret
      exact ⟨m, fun h c hc => bt_ten (by simpa using hc) (HP.out (by omega)), rfl, rfl⟩

/-- A byte as a value. -/
def bf (b : UInt8) : Value := .int .u8 b.toNat
theorem bf_def (b : UInt8) : bf b = .int .u8 (b.toNat : Int) := rfl

theorem drop_cons (bs : List UInt8) (k : Nat) (h : k < bs.length) : bs.drop k = bs.getD k 0 :: bs.drop (k + 1) := by
  rw [List.getD_eq_getElem?_getD, List.getElem?_eq_getElem h]
  exact List.drop_eq_getElem_cons h

theorem getD_snoc8 (l : List UInt8) (x : UInt8) (j : Nat) : (l ++ [x]).getD j 0 = if j = l.length then x else l.getD j 0 := by
  rcases Nat.lt_trichotomy j l.length with h | h | h
  · rw [if_neg (by omega)]
    simp [List.getD_eq_getElem?_getD, List.getElem?_append_left h]
  · subst h
    simp [List.getD_eq_getElem?_getD]
  · rw [if_neg (by omega)]
    simp only [List.getD_eq_getElem?_getD]
    rw [List.getElem?_eq_none (by simp; omega), List.getElem?_eq_none (by omega)]

theorem slc_of_row {w : World} {B n c : Nat} {out : List UInt8} (h : w.rowIs B 5 c (fun j => bf (out.getD j 0))) (hn : out.length = n) (hc : n ≤ c) : Slc bf 0 w (some ⟨B, 0, none⟩) out := fun i hi => ⟨B, 0, rfl, by
  rw [Nat.zero_add, h.cell (by omega)]⟩

set_option maxRecDepth 100000 in
set_option maxHeartbeats 4000000 in
/-- b2StripLayout. -/
theorem strip_any (a : Option Addr) (n cap : Nat) (bs : List UInt8) (w : World) (hn : bs.length = n) (hl : n ≤ 140737488355328) (hs : Slc bf 0 w a bs) :
    Calls Tryz.prog 16 #[.slice a n cap] w fun e w' => ∃ a' m c', e = .returned (.slice a' m c') ∧ m = (st false bs).length ∧ Hid (Slc bf 0 w' a' (st false bs)) ∧ Hid (Below w.heap.size w w') := by
  have HS := Lib.hid hs
  have HN := Lib.hid hn
  clear hs hn
  have hmk := fun W => make0 W 31 5 (.int .u8 0) 1 1 Tryz.underlying31 info5 n (by omega) (by omega)
  have HG : Hid ((w.alloc (.cells (madeCells #[.int .u8 0] n) 5)).rowIs w.heap.size 5 n (fun j => bf (([] : List UInt8).getD j 0))) := by
    have h := rowIs_made2 w #[.int .u8 0] n 5 1 rfl
    rw [Nat.mul_one] at h
    exact h.congr (g := fun j => bf (([] : List UInt8).getD j 0)) (fun i hi => by rw [Nat.mod_one]; rfl)
  go_enter Tryz.func16, Tryz.ntmps16
  go_wp2_with fail
  go_loopw [3, 4, 5] (fun wt fl i wr => ∃ (k m : Nat) (af : Bool) (out : List UInt8), k ≤ n ∧ m ≤ k ∧ wt = .slice (some ⟨w.heap.size, 0, none⟩) m n ∧ fl = .bool af ∧ i = .int .i64 k ∧ Hid (m = out.length) ∧ Hid (out ++ st af (bs.drop k) = st false bs) ∧ Hid (wr.rowIs w.heap.size 5 n (fun j => bf (out.getD j 0))) ∧ Hid (Below w.heap.size w wr)) (fun _ _ i _ => n - (intOf i).toNat)
  case atStart =>
    exact ⟨0, 0, false, [], Nat.zero_le _, Nat.le_refl _, rfl, rfl, rfl, rfl, rfl, HG.out, (Below.refl _ _).alloc (Nat.le_refl _) _⟩
  case round =>
    obtain ⟨k, m, af, out, hk, hm, rfl, rfl, rfl, hme, hst, hr, hb⟩ := hrel
    clear HG hmk
    by_cases hlt : k < n
    · obtain ⟨bu, ou, e, hc⟩ := (HS.out.below hb.out) k (by rw [HN.out]; exact hlt)
      subst e
      obtain ⟨c, ec⟩ : ∃ c, c = bs.getD k 0 := ⟨_, rfl⟩
      have hd : bs.drop k = c :: bs.drop (k + 1) := by rw [ec]; exact drop_cons bs k (by rw [HN.out]; exact hlt)
      have HD : Hid (out ++ st af (c :: bs.drop (k + 1)) = st false bs) := by
        have h := hst.out
        rw [hd] at h
        exact h
      rw [← ec, bf_def] at hc
      obtain ⟨x, ex⟩ : ∃ x : Int, x = (c.toNat : Int) := ⟨_, rfl⟩
      rw [← ex] at hc
      have HX := Lib.hid ex
      clear ec hd ex hst
      have hk1 : (k : Int) < (n : Int) := by omega
      by_cases h10 : x = 10
      · have e1 : (x == 10) = true := by simpa using h10
        go_wp2_with fail
        go_roundw
        case rel =>
          refine ⟨k + 1, m, true, out, by omega, by omega, rfl, rfl, by go_num, hme, ?_, hr, hb⟩
          have hc10 : c = 10 := UInt8.toNat_inj.1 (by have := HX.out; show c.toNat = 10; omega)
          have h := HD.out
          rw [hc10, st_nl] at h
          exact h
        case measure => simp [intOf]; omega
      · have e1 : (x == 10) = false := by simpa using h10
        have hc10 : Hid (c ≠ 10) := fun e => h10 (by rw [HX.out, e]; rfl)
        by_cases h32 : af = true ∧ x = 32
        · obtain ⟨rfl, h32⟩ := h32
          have e2 : (x == 32) = true := by simpa using h32
          go_wp2_with fail
          go_roundw
          case rel =>
            refine ⟨k + 1, m, true, out, by omega, by omega, rfl, rfl, by go_num, hme, ?_, hr, hb⟩
            have hc32 : c = 32 := UInt8.toNat_inj.1 (by have := HX.out; show c.toNat = 32; omega)
            have h := HD.out
            rw [hc32, st_skip] at h
            exact h
          case measure => simp [intOf]; omega
        · have HD2 : Hid (out ++ c :: st false (bs.drop (k + 1)) = st false bs) := by
            have h := HD.out
            rw [st, if_neg hc10.out, if_neg (fun e => h32 ⟨e.1, by rw [HX.out, e.2]; rfl⟩)] at h
            exact h
          have cw0 := hr.out.cell (i := m) (by omega)
          have cwf := hr.out.frozen m
          have lw := World.block_lt_of_cell? _ _ cw0
          simp only at lw
          have tc := fun (o : Obj) => (cell_alloc_old (w := wr) (o := o) (b := w.heap.size) (i := m) lw).trans cw0
          have tf := fun (o : Obj) => (fz_alloc_old (w := wr) (o := o) (b := w.heap.size) (i := m) lw).trans cwf
          have hmn : (m : Int) < (n : Int) := by omega
          obtain ⟨g, eg⟩ : ∃ g, g = (af && (x == 32)) := ⟨_, rfl⟩
          have hg : g = false := by
            rw [eg]
            cases af
            · rfl
            · have : ¬ x = 32 := fun e => h32 ⟨rfl, e⟩
              simpa using this
          have hrest : Hid (∀ o v, ((wr.setCell ⟨w.heap.size, m, none⟩ (.int .u8 x)) = v) → (v.alloc o).rowIs w.heap.size 5 n (fun j => bf ((out ++ [c]).getD j 0)) ∧ Below w.heap.size w (v.alloc o)) := fun o v e => by
            subst e
            refine ⟨((hr.out.set m (.int .u8 x)).alloc _).congr (fun j hj => ?_), (hb.out.setCell (Nat.le_refl _) _).alloc (by rw [World.size_setCell]; exact hb.out.size) _⟩
            show _ = bf _
            rw [getD_snoc8, ← hme.out]
            by_cases e : j = m
            · rw [if_pos e, if_pos e, HX.out]; rfl
            · rw [if_neg e, if_neg e]
          cases af
          all_goals
            (try (have e2 : (x == 32) = false := by
                    have : ¬ x = 32 := fun e => h32 ⟨rfl, e⟩
                    simpa using this))
            go_wp2_with fail
            go_roundw
            case rel =>
              refine ⟨k + 1, m + 1, false, out ++ [c], by omega, by omega, by go_num, rfl, by go_num, ?_, ?_, ?_, ?_⟩
              · show m + 1 = _
                rw [List.length_append, ← hme.out]; rfl
              · show _ = _
                rw [List.append_assoc]; exact HD2.out
              · exact (hrest.out _ _ rfl).1
              · exact (hrest.out _ _ rfl).2
            case measure => simp [intOf]; omega
    · obtain rfl : k = n := by omega
      go_wp2_with fail
      go_ret
      have h := hst.out
      rw [List.drop_eq_nil_of_le (by rw [HN.out]; omega)] at h
      have h2 : out = st false bs := by
        rw [← h]
        simp [st]
      subst h2
      exact ⟨_, m, _, rfl, hme.out, slc_of_row hr.out hme.out.symm (by omega), hb⟩

set_option maxRecDepth 100000 in
set_option maxHeartbeats 4000000 in
/-- b2Equal of the same bytes. -/
theorem equal_any (a1 a2 : Option Addr) (n c1 c2 : Nat) (bs : List UInt8) (w : World) (hn : bs.length = n) (hl : n ≤ 140737488355328) (h1 : Slc bf 0 w a1 bs) (h2 : Slc bf 0 w a2 bs) :
    Calls Tryz.prog 15 #[.slice a1 n c1, .slice a2 n c2] w fun e w' => e = .returned (.bool true) ∧ ∃ d, w' = w.drewN d := by
  have H1 := Lib.hid h1
  have H2 := Lib.hid h2
  have HN := Lib.hid hn
  clear h1 h2 hn
  go_enter Tryz.func15, Tryz.ntmps15
  go_wp2_with fail
  go_loopw [5] (fun i wr => ∃ k : Nat, k ≤ n ∧ i = .int .i64 k ∧ Hid (∃ d, wr = w.drewN d)) (fun i _ => n - (intOf i).toNat)
  case atStart => exact ⟨0, Nat.zero_le _, rfl, ⟨0, rfl⟩⟩
  case round =>
    obtain ⟨k, hk, rfl, hD⟩ := hrel
    by_cases hlt : k < n
    · obtain ⟨b1, o1, e1, q1⟩ := H1.out k (by rw [HN.out]; exact hlt)
      obtain ⟨b2, o2, e2, q2⟩ := H2.out k (by rw [HN.out]; exact hlt)
      subst e1 e2
      have x1 : wr.cell? ⟨b1, o1 + k, none⟩ = some (bf (bs.getD k 0)) := by
        obtain ⟨d, rfl⟩ := hD.out
        exact q1
      have x2 : wr.cell? ⟨b2, o2 + k, none⟩ = some (bf (bs.getD k 0)) := by
        obtain ⟨d, rfl⟩ := hD.out
        exact q2
      rw [bf_def] at x1 x2
      obtain ⟨x, ex⟩ : ∃ x : Int, x = ((bs.getD k 0).toNat : Int) := ⟨_, rfl⟩
      rw [← ex] at x1 x2
      clear ex q1 q2
      have hk1 : (k : Int) < (n : Int) := by omega
      go_wp2_with fail
      go_quiet (fail)
      go_wp2_with fail
      go_roundw
      case rel =>
        refine ⟨k + 1, by omega, by go_num, ?_⟩
        obtain ⟨d, rfl⟩ := hD.out
        exact ⟨_, World.drewN_drewN _ _ _⟩
      case measure => simp [intOf]; omega
    · have hk1 : ¬ (k : Int) < (n : Int) := by omega
      go_wp2_with fail
      go_ret
      exact ⟨rfl, hD.out⟩

end Go.Proofs.YtiplakadjkimmabGreatFmt
