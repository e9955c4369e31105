/-
  The law FnPrintRuleCharsetQuoted: the export and the law's walk.
-/
import Derived.Test.YtiplakadjkimmabGreatFmtW
namespace Go.Proofs.YtiplakadjkimmabGreatFmt
open Go.RowKit Go.Deep Go.PlainAid

/-- A printer's zero row, and a new printer's row. -/
def zeroQ : Array Value := #[.pointer none, .slice none 0 0, .map none, .int .i64 0, .int .u32 0, .int .u16 0, .bool false, .bool false, .int .u8 0, .bool false, .int .u8 0, .bool false, .int .u8 0, .slice none 0 0, .slice none 0 0, .slice none 0 0, .map none, .slice none 0 0, .slice none 0 0, .pointer none, .slice none 0 0, .slice none 0 0, .map none, .slice none 0 0, .string ⟨#[]⟩, .int .i64 0, .int .i64 0, .int .i64 0, .int .i64 0, .int .i64 0, .int .i64 0, .bool false, .int .i64 0, .int .i64 0, .int .i64 0, .int .i32 0, .int .u32 0, .bool false, .bool false, .bool false, .bool false, .int .i64 0, .int .i64 0]
def newQ (mn : Bool) : Array Value := #[.pointer none, .slice none 0 0, .map none, .int .i64 0, .int .u32 0, .int .u16 0, .bool mn, .bool false, .int .u8 0, .bool false, .int .u8 0, .bool false, .int .u8 0, .slice none 0 0, .slice none 0 0, .slice none 0 0, .map none, .slice none 0 0, .slice none 0 0, .pointer none, .slice none 0 0, .slice none 0 0, .map none, .slice none 0 0, .string ⟨#[]⟩, .int .i64 0, .int .i64 0, .int .i64 0, .int .i64 0, .int .i64 0, .int .i64 0, .bool false, .int .i64 0, .int .i64 0, .int .i64 0, .int .i32 0, .int .u32 0, .bool false, .bool false, .bool false, .bool false, .int .i64 0, .int .i64 0]
theorem infoQ (mn : Bool) : (Tryz.prog.info? 85).map (·.size) = some (newQ mn).size := by
  have h : (Tryz.prog.info? 85).map (·.size) = some 43 := by kernel_rfl
  exact h
theorem one_newQ (mn : Bool) : (newQ mn).all (·.oneCell') = true := by simp [newQ, Value.oneCell']

theorem css_row (B : Nat) (mn : Bool) (W : World) (h : W.heap[B]? = some (.cells (newQ mn) 85 (0, 0))) : Css B mn 0 [] W := by
  have hc := fun i => cell_of_row W B i _ 85 (0, 0) h
  exact ⟨⟨⟨hc 3, hc 5⟩, ⟨hc 6, hc 7⟩, hc 9, frozen_of h⟩, .slice none 0 0, hc 15, ⟨rfl, .inl ⟨rfl, rfl⟩⟩⟩

/-- What is written is read as a slice; it is not nil where something was written. -/
theorem slc_some8 {w : World} {B : Nat} {v : Value} {l : List UInt8} (h : w.ownsRow B 5 1 v l.length (bv l)) (hl : 0 < l.length) : ∃ ad sm, v = .slice (some ad) l.length sm ∧ Slc bf 0 w (some ad) l := by
  have hh := h
  rcases h.2 with ⟨hv, h0⟩ | ⟨g, cap, cur, hv, _⟩
  · omega
  · subst hv
    refine ⟨_, _, rfl, fun i hi => ⟨g, 0, rfl, ?_⟩⟩
    rw [Nat.zero_add, hh.cellAt i (by omega)]
    simp [bv, bf, List.getD_eq_getElem?_getD, hi]

theorem chR_len (mn : Bool) (s : ByteArray) (hs : s.size ≤ 1048576) : 0 < (chR mn s).length ∧ (chR mn s).length ≤ 3000000 := by
  have h := bodyE_len s s.size
  cases mn
  · simp [chR, chsB]; omega
  · simp [chR, chsB]; omega

set_option maxHeartbeats 4000000 in
set_option maxRecDepth 100000 in
theorem export_any (mn : Bool) (s : ByteArray) (w : World) (hs : s.size ≤ 1048576) (hp : ∀ i, i < s.size → 32 ≤ bt s i ∧ bt s i ≤ 126) :
    Calls Tryz.prog 7 #[.string s, .bool mn] w fun e w' => e = .returned (.string ⟨(chR mn s).toArray⟩) ∧ Hid (Below w.heap.size w w') := by
  have hP := Lib.hid (And.intro hs hp)
  have h0 := Lib.hid (blk_alloc_new w (.cells zeroQ 85))
  clear hs hp
  go_enter Tryz.func7, Tryz.ntmps7
  go_upto_region 2 with (first | (refine wpList_store_row rfl 85 (.tmp 5) (.tmp 8) rfl w.heap.size (newQ mn) rfl rfl 85 _ h0.out (infoQ mn) rfl (one_newQ mn) ?_) | fail)
  simp only [Act.put]
  have h1 : Hid (((w.alloc (.cells zeroQ 85)).setRow w.heap.size (newQ mn)).heap[w.heap.size]? = some (.cells (newQ mn) 85 (0, 0))) := setRow_heap _ _ _ _ _ _ h0.out
  have hb1 : Hid (Below w.heap.size w ((w.alloc (.cells zeroQ 85)).setRow w.heap.size (newQ mn))) := below_setRow ((Below.refl _ _).alloc (Nat.le_refl _) _) (Nat.le_refl _) _
  obtain ⟨W1, e1⟩ : ∃ W1, W1 = (w.alloc (.cells zeroQ 85)).setRow w.heap.size (newQ mn) := ⟨_, rfl⟩
  unfold zeroQ at h1 hb1 e1
  rw [← e1] at h1 hb1 ⊢
  clear e1 h0
  have hBl : w.heap.size < W1.heap.size := (Array.getElem?_eq_some_iff.1 h1.out).1
  have hc := charset_any w.heap.size W1.heap.size mn s (W1.alloc (.cells #[.string s] 89)) (by omega) (blk_alloc_new W1 _) ((css_row _ _ _ h1.out).alloc _) hP.out.1 hP.out.2
  have HC := Lib.hid hc
  clear hc
  go_wp2_with fail
  refine HC.out.mono ?_
  rintro e W2 ⟨rfl, H2, B2⟩
  have hlen := chR_len mn s hP.out.1
  obtain ⟨_, v, hv15, hrow⟩ := H2.out
  obtain ⟨ad, sm, rfl, hsl⟩ := slc_some8 hrow hlen.1
  have hconv := conv_slc sm hsl rfl
  have HSL := Lib.hid hsl
  clear hsl hrow hlen
  go_wp2_with fail
  go_ret
  exact ⟨rfl, (hb1.out.alloc hb1.out.size _).trans B2.out⟩

set_option maxRecDepth 100000 in
/-- zzBytes: where it says yes, the text is short. -/
theorem zz6_any (s : ByteArray) (mn : Bool) (w : World) (hs : s.size ≤ 9223372036854775807) : Calls Tryz.prog 6 #[.string s, .bool mn] w (SomeBool (fun b => b = true → s.size ≤ 1048576) w) := by
  go_enter Tryz.func6, Tryz.ntmps6
  go_wp2_with fail
  all_goals
    go_ret
    exact ⟨_, fun h => by first | (cases h; done) | omega, rfl, rfl⟩

theorem cat_list (a b : ByteArray) : (a ++ b).data.toList = a.data.toList ++ b.data.toList := by
  rw [ByteArray.data_append]; simp
theorem chR_cat (s m : ByteArray) (hm : m.data.toList = bodyE s s.size) : ((⟨#[64, 99, 104, 97, 114, 115, 101, 116, 32, 34]⟩ : ByteArray) ++ m ++ ⟨#[34, 59]⟩).toList = (⟨(chR true s).toArray⟩ : ByteArray).toList := by
  rw [ByteArray.toList_eq, ByteArray.toList_eq, cat_list, cat_list, hm]
  simp [chR, chsB]
theorem chR_cat2 (s m : ByteArray) (hm : m.data.toList = bodyE s s.size) : ((⟨#[64, 99, 104, 97, 114, 115, 101, 116, 32, 34]⟩ : ByteArray) ++ m ++ ⟨#[34, 59]⟩ ++ ⟨#[10]⟩).toList = (⟨(chR false s).toArray⟩ : ByteArray).toList := by
  rw [ByteArray.toList_eq, ByteArray.toList_eq, cat_list, cat_list, cat_list, hm]
  simp [chR, chsB]

set_option maxHeartbeats 4000000 in
set_option maxRecDepth 100000 in
theorem law3 (s : ByteArray) (mn : Bool) (w : World) (hs9 : s.size ≤ 9223372036854775807) : Calls Tryz.prog 3 #[.string s, .bool mn] w fun e w' => e = .returned (.bool true) ∧ Below w.heap.size w w' := by
  have H6 := Lib.hid (zz6_any s mn w hs9)
  have hb := get_bt s
  go_enter Tryz.func3, Tryz.ntmps3
  go_wp2_with fail
  refine H6.out.mono ?_
  rintro e w' ⟨b, hb2, rfl, rfl⟩
  have HB := Lib.hid hb2
  clear hb2 hs9
  cases b
  · go_wp2_with fail
    go_ret
    exact ⟨rfl, Below.refl _ _⟩
  have hs20 := HB.out rfl
  clear HB H6
  go_wp2_with fail
  go_loop [5] (fun i => ∃ k : Nat, k ≤ s.size ∧ i = .int .i64 (k : Int) ∧ Hid (∀ j, j < k → 32 ≤ bt s j ∧ bt s j ≤ 126)) (fun i => s.size - (intOf i).toNat)
  case atStart => exact ⟨0, Nat.zero_le _, rfl, fun j hj => absurd hj (Nat.not_lt_zero _)⟩
  case round =>
    obtain ⟨k, hk, rfl, HP⟩ := hrel
    by_cases hlt : k < s.size
    · have k1 : (k : Int) < (s.size : Int) := by omega
      obtain ⟨x, hx⟩ : ∃ x : Int, bt s k = x := ⟨_, rfl⟩
      have HX := Lib.hid hx
      by_cases h32 : x < 32
      · go_wp2_with fail
        go_ret
        exact ⟨rfl, Below.refl _ _⟩
      by_cases h126 : 126 < x
      · go_wp2_with fail
        go_ret
        exact ⟨rfl, Below.refl _ _⟩
      go_wp2_with fail
      go_round
      case rel => exact ⟨k + 1, by omega, by go_num, fun j hj => by
        rcases Nat.lt_or_ge j k with h | h
        · exact HP.out j h
        · obtain rfl : j = k := by omega
          rw [HX.out]; omega⟩
      case measure => simp [intOf]; omega
    · obtain rfl : k = s.size := by omega
      have k1 : ¬ (s.size : Int) < (s.size : Int) := by omega
      go_wp2_with fail
      refine (export_any mn s w hs20 HP.out).mono ?_
      rintro e w1 ⟨rfl, B1⟩
      obtain ⟨G, eG⟩ : ∃ G : ByteArray, G = ⟨(chR mn s).toArray⟩ := ⟨_, rfl⟩
      rw [← eG]
      have HG := Lib.hid eG
      clear eG
      go_wp2_with fail
      refine (quote_any s w1 hs20).mono ?_
      rintro e w2 ⟨rfl, B2⟩
      obtain ⟨m, em⟩ : ∃ m : ByteArray, m = ⟨(bodyE s s.size).toArray⟩ := ⟨_, rfl⟩
      rw [← em]
      have hm : m.data.toList = bodyE s s.size := by rw [em]
      have hml : m.size ≤ 2097152 := by
        have h := bodyE_len s s.size
        rw [← bs_len, hm]; omega
      have HM := Lib.hid hm
      have hq : Hid (Below w.heap.size w w2) := B1.out.trans (B2.out.mono B1.out.size)
      clear em hm
      cases mn
      · go_wp2_with fail
        go_ret
        refine ⟨?_, hq.out⟩
        show Ending.returned (Value.bool (G.toList == _)) = _
        rw [chR_cat2 s m HM.out, HG.out]
        simp
      · go_wp2_with fail
        go_ret
        refine ⟨?_, hq.out⟩
        show Ending.returned (Value.bool (G.toList == _)) = _
        rw [chR_cat s m HM.out, HG.out]
        simp

/-- The walk of the law: it answers true. -/
theorem fnPrintRuleCharsetQuoted_walk (s : ByteArray) (mn : Bool) (W : World) (h : s.size ≤ maxLen) :
    Calls Tryz.prog 3 #[.string s, .bool mn] W fun e w' => e = .returned (.bool true) ∧ Below W.heap.size W w' := law3 s mn W h
end Go.Proofs.YtiplakadjkimmabGreatFmt
