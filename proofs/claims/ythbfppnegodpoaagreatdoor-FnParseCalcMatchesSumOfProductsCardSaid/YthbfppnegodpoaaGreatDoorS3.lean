/-
  zzInf, zzNaN and zzOperand.
-/
import Derived.Test.YthbfppnegodpoaaGreatDoorK9
namespace Go.Proofs.YthbfppnegodpoaaGreatDoor
open Go.RowKit Go.Deep Go.PlainAid Ieee

theorem mul_inf (w : World) : (binOp .mul 38 (.float .f64 9214871658872686752) (.float .f64 4621819117588971520)).run Tryz.prog w = .ok (.float .f64 fInf) w := by kernel_rfl
theorem unneg_inf (w : World) : (Op.unary .neg (.float .f64 fInf)).run Tryz.prog w = .ok (.float .f64 fNeg) w := by kernel_rfl
/-- The NaN that is drawn. -/
def zN (w : World) : Nat := Question.cut (.nanBits .f64 fInf fInf) (w.tape w.drawn (.nanBits .f64 fInf fInf))
theorem zN_alloc (w : World) (o : Obj) : zN (w.alloc o) = zN w := rfl
theorem sub_inf (w : World) : (binOp .sub 38 (.float .f64 fInf) (.float .f64 fInf)).run Tryz.prog w = .ok (.float .f64 (zN w)) w.drew := by kernel_rfl

theorem nan_of {x : Nat} {s : Bool} {p : Nat} (h : double.read x = .nan s p) : isNaN x := by
  unfold isNaN Format.order
  rw [h]
  rfl
theorem cut_nan (x y t : Nat) : isNaN (Question.cut (.nanBits .f64 x y) t) := by
  have hs : double.signWeight = 2 ^ 63 := by decide +kernel
  have hi : double.infRung = 0x7ff0000000000000 := by decide +kernel
  have hb : double.binade = 2 ^ 52 := by decide +kernel
  show isNaN ((t % 2) * 2 ^ 63 + 0x7ff0000000000000 + 1 + (t / 2) % (2 ^ 52 - 1))
  have hr : (t / 2) % (2 ^ 52 - 1) < 2 ^ 52 - 1 := Nat.mod_lt _ (by decide)
  obtain ⟨r, er⟩ : ∃ r, r = (t / 2) % (2 ^ 52 - 1) := ⟨_, rfl⟩
  rw [← er] at hr ⊢
  have hm : ((t % 2) * 2 ^ 63 + 0x7ff0000000000000 + 1 + r) % 2 ^ 63 = 0x7ff0000000000000 + 1 + r := by omega
  refine nan_of (s := ((t % 2 * 2 ^ 63 + 9218868437227405312 + 1 + r) / 2 ^ 63 % 2 == 1)) (p := 9218868437227405312 + 1 + r - 9218868437227405312) ?_
  unfold Format.read
  rw [hs, hi, hb]
  simp only [hm]
  rw [if_neg (by omega), if_neg (by omega), if_neg (by omega)]
theorem fnan_is : isNaN fNaN := by unfold isNaN; decide +kernel

set_option maxRecDepth 100000 in
theorem zinf_any (w : World) : Calls Tryz.prog 36 #[] w fun e w' => e = .returned (.float .f64 fInf) ∧ w = w' := by
  have hm := mul_inf
  go_enter Tryz.func36, Tryz.ntmps36
  go_wp2_with fail
  go_ret
  exact ⟨rfl, rfl⟩
set_option maxRecDepth 100000 in
theorem znan_any (w : World) : Calls Tryz.prog 37 #[] w fun e w' => e = .returned (.float .f64 (zN w)) ∧ w.drew = w' := by
  have hm := sub_inf
  go_enter Tryz.func37, Tryz.ntmps37
  go_wp2_with fail
  refine (zinf_any _).mono ?_
  rintro e w' ⟨rfl, rfl⟩
  go_wp2_with fail
  go_ret
  exact ⟨rfl, rfl⟩

def opdK (c : Int) : Int := bits .and .u16 c 7
def ws2 (c : Int) : Int := wsN (bits .and .u16 c 8 != 0) (bits .and .u16 c 16 != 0)
/-- An operand's token and its tree. -/
def opdTok (c : Int) : TK :=
  if opdK c = 3 then ⟨none, ⟨#[120]⟩, 30, ws2 c⟩ else
  if opdK c = 4 then ⟨none, ⟨#[105, 110, 102, 105, 110, 105, 116, 121]⟩, 29, ws2 c⟩ else
  if opdK c = 5 then ⟨none, ⟨#[45, 73, 78, 70, 73, 78, 73, 84, 89]⟩, 29, ws2 c⟩ else
  if opdK c = 6 then ⟨none, ⟨#[78, 97, 78]⟩, 29, ws2 c⟩ else
  if opdK c = 7 then ⟨none, ⟨#[112, 120]⟩, 29, ws2 c⟩ else
  ⟨none, strOfNums (numZ (c / 32)), 30, ws2 c⟩
def opdT (c : Int) : CT :=
  if opdK c = 3 then .val 30 ⟨#[120]⟩ (ws2 c) false else
  if opdK c = 4 then .num ⟨#[]⟩ fInf else
  if opdK c = 5 then .num ⟨#[]⟩ fNeg else
  if opdK c = 6 then .num ⟨#[]⟩ fNaN else
  if opdK c = 7 then .val 29 ⟨#[112, 120]⟩ (ws2 c) false else
  .num ⟨#[]⟩ (floatOfInt .f64 (c / 32))
def OpdAt (c : Int) (w : World) (e : Ending) (w' : World) : Prop :=
  ∃ m : MV, e = .returned (.tuple #[.agg (opdTok c).vals, m.val]) ∧ Below w.heap.size w w' ∧ ∀ W D, Mir W D m (opdT c)

set_option maxHeartbeats 4000000 in
set_option maxRecDepth 100000 in
theorem opd_3 (c : Int) (w : World) (h0 : 0 ≤ c) (h1 : c ≤ 65535) (hk : bits .and .u16 c 7 = 3) : Calls Tryz.prog 27 #[.int .u16 c] w (OpdAt c w) := by
  have ek : opdK c = 3 := hk
  have hn := unneg_inf
  go_enter Tryz.func27, Tryz.ntmps27
  go_wp2_with fail
  refine (ws_any _ _ _).mono ?_
  rintro e w' ⟨rfl, rfl⟩
  go_wp2_with fail
  refine bodyPost_ret (v := .tuple #[.agg #[.pointer none, .string ⟨#[120]⟩, .int .i32 0, .int .u32 0, .int .u16 0, .int .u8 30, .int .u8 (ws2 c)], .agg #[.int .i64 2, .string ⟨#[]⟩, .float .f64 0, .int .u8 30, .string ⟨#[120]⟩, .int .u8 (ws2 c), .bool false, .slice none 0 0]]) (by simp [results, Tryz.results27, go_sem, ws2]) rfl ⟨⟨2, ⟨#[]⟩, 0, 30, ⟨#[120]⟩, ws2 c, false, .slice none 0 0⟩, ?_, ((Below.refl _ _).alloc (Nat.le_refl _) _).alloc (by rw [World.size_alloc]; omega) _, fun W D => ?_⟩
  · unfold opdTok
    simp [ek, TK.vals, MV.val]
  · unfold opdT
    simp only [ek]
    exact .val _ _ _ _

set_option maxHeartbeats 4000000 in
set_option maxRecDepth 100000 in
theorem opd_4 (c : Int) (w : World) (h0 : 0 ≤ c) (h1 : c ≤ 65535) (hk : bits .and .u16 c 7 = 4) : Calls Tryz.prog 27 #[.int .u16 c] w (OpdAt c w) := by
  have ek : opdK c = 4 := hk
  have hn := unneg_inf
  go_enter Tryz.func27, Tryz.ntmps27
  go_wp2_with fail
  refine (ws_any _ _ _).mono ?_
  rintro e w' ⟨rfl, rfl⟩
  go_wp2_with fail
  refine (zinf_any _).mono ?_
  rintro e w' ⟨rfl, rfl⟩
  go_wp2_with fail
  refine bodyPost_ret (v := .tuple #[.agg #[.pointer none, .string ⟨#[105, 110, 102, 105, 110, 105, 116, 121]⟩, .int .i32 0, .int .u32 0, .int .u16 0, .int .u8 29, .int .u8 (ws2 c)], .agg #[.int .i64 1, .string ⟨#[]⟩, .float .f64 fInf, .int .u8 0, .string ⟨#[]⟩, .int .u8 0, .bool false, .slice none 0 0]]) (by simp [results, Tryz.results27, go_sem, ws2]) rfl ⟨⟨1, ⟨#[]⟩, fInf, 0, ⟨#[]⟩, 0, false, .slice none 0 0⟩, ?_, ((Below.refl _ _).alloc (Nat.le_refl _) _).alloc (by rw [World.size_alloc]; omega) _, fun W D => ?_⟩
  · unfold opdTok
    simp [ek, TK.vals, MV.val]
  · unfold opdT
    simp only [ek]
    exact .num _ _ _ (.inl rfl)

set_option maxHeartbeats 4000000 in
set_option maxRecDepth 100000 in
theorem opd_5 (c : Int) (w : World) (h0 : 0 ≤ c) (h1 : c ≤ 65535) (hk : bits .and .u16 c 7 = 5) : Calls Tryz.prog 27 #[.int .u16 c] w (OpdAt c w) := by
  have ek : opdK c = 5 := hk
  have hn := unneg_inf
  go_enter Tryz.func27, Tryz.ntmps27
  go_wp2_with fail
  refine (ws_any _ _ _).mono ?_
  rintro e w' ⟨rfl, rfl⟩
  go_wp2_with fail
  refine (zinf_any _).mono ?_
  rintro e w' ⟨rfl, rfl⟩
  go_wp2_with fail
  refine bodyPost_ret (v := .tuple #[.agg #[.pointer none, .string ⟨#[45, 73, 78, 70, 73, 78, 73, 84, 89]⟩, .int .i32 0, .int .u32 0, .int .u16 0, .int .u8 29, .int .u8 (ws2 c)], .agg #[.int .i64 1, .string ⟨#[]⟩, .float .f64 fNeg, .int .u8 0, .string ⟨#[]⟩, .int .u8 0, .bool false, .slice none 0 0]]) (by simp [results, Tryz.results27, go_sem, ws2]) rfl ⟨⟨1, ⟨#[]⟩, fNeg, 0, ⟨#[]⟩, 0, false, .slice none 0 0⟩, ?_, ((Below.refl _ _).alloc (Nat.le_refl _) _).alloc (by rw [World.size_alloc]; omega) _, fun W D => ?_⟩
  · unfold opdTok
    simp [ek, TK.vals, MV.val]
  · unfold opdT
    simp only [ek]
    exact .num _ _ _ (.inl rfl)

set_option maxHeartbeats 4000000 in
set_option maxRecDepth 100000 in
theorem opd_6 (c : Int) (w : World) (h0 : 0 ≤ c) (h1 : c ≤ 65535) (hk : bits .and .u16 c 7 = 6) : Calls Tryz.prog 27 #[.int .u16 c] w (OpdAt c w) := by
  have ek : opdK c = 6 := hk
  have hn := unneg_inf
  go_enter Tryz.func27, Tryz.ntmps27
  go_wp2_with fail
  refine (ws_any _ _ _).mono ?_
  rintro e w' ⟨rfl, rfl⟩
  go_wp2_with fail
  refine (znan_any _).mono ?_
  rintro e w' ⟨rfl, rfl⟩
  go_wp2_with fail
  refine bodyPost_ret (v := .tuple #[.agg #[.pointer none, .string ⟨#[78, 97, 78]⟩, .int .i32 0, .int .u32 0, .int .u16 0, .int .u8 29, .int .u8 (ws2 c)], .agg #[.int .i64 1, .string ⟨#[]⟩, .float .f64 (zN w), .int .u8 0, .string ⟨#[]⟩, .int .u8 0, .bool false, .slice none 0 0]]) (by simp [results, Tryz.results27, go_sem, ws2, zN_alloc]) rfl ⟨⟨1, ⟨#[]⟩, (zN w), 0, ⟨#[]⟩, 0, false, .slice none 0 0⟩, ?_, (((Below.refl _ _).alloc (Nat.le_refl _) _).alloc (by rw [World.size_alloc]; omega) _).drew, fun W D => ?_⟩
  · unfold opdTok
    simp [ek, TK.vals, MV.val]
  · unfold opdT
    simp only [ek]
    exact .num _ _ _ (.inr ⟨fnan_is, cut_nan _ _ _⟩)

set_option maxHeartbeats 4000000 in
set_option maxRecDepth 100000 in
theorem opd_7 (c : Int) (w : World) (h0 : 0 ≤ c) (h1 : c ≤ 65535) (hk : bits .and .u16 c 7 = 7) : Calls Tryz.prog 27 #[.int .u16 c] w (OpdAt c w) := by
  have ek : opdK c = 7 := hk
  have hn := unneg_inf
  go_enter Tryz.func27, Tryz.ntmps27
  go_wp2_with fail
  refine (ws_any _ _ _).mono ?_
  rintro e w' ⟨rfl, rfl⟩
  go_wp2_with fail
  refine bodyPost_ret (v := .tuple #[.agg #[.pointer none, .string ⟨#[112, 120]⟩, .int .i32 0, .int .u32 0, .int .u16 0, .int .u8 29, .int .u8 (ws2 c)], .agg #[.int .i64 2, .string ⟨#[]⟩, .float .f64 0, .int .u8 29, .string ⟨#[112, 120]⟩, .int .u8 (ws2 c), .bool false, .slice none 0 0]]) (by simp [results, Tryz.results27, go_sem, ws2]) rfl ⟨⟨2, ⟨#[]⟩, 0, 29, ⟨#[112, 120]⟩, ws2 c, false, .slice none 0 0⟩, ?_, ((Below.refl _ _).alloc (Nat.le_refl _) _).alloc (by rw [World.size_alloc]; omega) _, fun W D => ?_⟩
  · unfold opdTok
    simp [ek, TK.vals, MV.val]
  · unfold opdT
    simp only [ek]
    exact .val _ _ _ _

set_option maxHeartbeats 4000000 in
set_option maxRecDepth 100000 in
theorem opd_0 (c : Int) (w : World) (h0 : 0 ≤ c) (h1 : c ≤ 65535) (k : Int) (hk : bits .and .u16 c 7 = k) (k3 : (k == 3) = false) (k4 : (k == 4) = false) (k5 : (k == 5) = false) (k6 : (k == 6) = false) (k7 : (k == 7) = false) : Calls Tryz.prog 27 #[.int .u16 c] w (OpdAt c w) := by
  have ek : opdK c = k := hk
  go_enter Tryz.func27, Tryz.ntmps27
  go_wp2_with fail
  refine (ws_any _ _ _).mono ?_
  rintro e w' ⟨rfl, rfl⟩
  go_wp2_with fail
  refine (itoa_any _ _ (by omega) (by omega)).mono ?_
  rintro e w2 ⟨rfl, hb⟩
  have hb1 : Below w.heap.size w w2 := (((Below.refl _ _).alloc (Nat.le_refl _) _).alloc (by rw [World.size_alloc]; omega) _).trans (hb.mono (by rw [World.size_alloc, World.size_alloc]; omega))
  have r0 : w2.cell? ⟨w.heap.size, 0, none⟩ = some (.pointer none) := cell_later hb (by simp [go_sem])
  have r1 : w2.cell? ⟨w.heap.size, 1, none⟩ = some (.string ⟨#[]⟩) := cell_later hb (by simp [go_sem])
  have r2 : w2.cell? ⟨w.heap.size, 2, none⟩ = some (.int .i32 0) := cell_later hb (by simp [go_sem])
  have r3 : w2.cell? ⟨w.heap.size, 3, none⟩ = some (.int .u32 0) := cell_later hb (by simp [go_sem])
  have r4 : w2.cell? ⟨w.heap.size, 4, none⟩ = some (.int .u16 0) := cell_later hb (by simp [go_sem])
  have r5 : w2.cell? ⟨w.heap.size, 5, none⟩ = some (.int .u8 0) := cell_later hb (by simp [go_sem])
  have r6 : w2.cell? ⟨w.heap.size, 6, none⟩ = some (.int .u8 0) := cell_later hb (by simp [go_sem])
  have s0 : w2.cell? ⟨w.heap.size + 1, 0, none⟩ = some (.int .i64 0) := cell_later hb (by simp [go_sem])
  have s1 : w2.cell? ⟨w.heap.size + 1, 1, none⟩ = some (.string ⟨#[]⟩) := cell_later hb (by simp [go_sem])
  have s2 : w2.cell? ⟨w.heap.size + 1, 2, none⟩ = some (.float .f64 0) := cell_later hb (by simp [go_sem])
  have s3 : w2.cell? ⟨w.heap.size + 1, 3, none⟩ = some (.int .u8 0) := cell_later hb (by simp [go_sem])
  have s4 : w2.cell? ⟨w.heap.size + 1, 4, none⟩ = some (.string ⟨#[]⟩) := cell_later hb (by simp [go_sem])
  have s5 : w2.cell? ⟨w.heap.size + 1, 5, none⟩ = some (.int .u8 0) := cell_later hb (by simp [go_sem])
  have s6 : w2.cell? ⟨w.heap.size + 1, 6, none⟩ = some (.bool false) := cell_later hb (by simp [go_sem])
  have s7 : w2.cell? ⟨w.heap.size + 1, 7, none⟩ = some (.slice none 0 0) := cell_later hb (by simp [go_sem])
  have rf : ∀ i, w2.frozen? ⟨w.heap.size, i, none⟩ = false := fun i => (hb.frozen (p := ⟨w.heap.size, i, none⟩) (by rw [World.size_alloc, World.size_alloc]; show w.heap.size < _; omega)).trans (by simp [go_sem])
  have sf : ∀ i, w2.frozen? ⟨w.heap.size + 1, i, none⟩ = false := fun i => (hb.frozen (p := ⟨w.heap.size + 1, i, none⟩) (by rw [World.size_alloc, World.size_alloc]; show w.heap.size + 1 < _; omega)).trans (by simp [go_sem])
  have rf0 := rf 0
  have rf1 := rf 1
  have rf2 := rf 2
  have rf3 := rf 3
  have rf4 := rf 4
  have rf5 := rf 5
  have rf6 := rf 6
  have sf0 := sf 0
  have sf1 := sf 1
  have sf2 := sf 2
  have sf3 := sf 3
  have sf4 := sf 4
  have sf5 := sf 5
  have sf6 := sf 6
  have sf7 := sf 7
  have HB1 := Lib.hid hb1
  clear rf sf hb hb1
  go_wp2_with fail
  refine bodyPost_ret (v := .tuple #[.agg #[.pointer none, .string (strOfNums (numZ (c / 32))), .int .i32 0, .int .u32 0, .int .u16 0, .int .u8 30, .int .u8 (ws2 c)], .agg #[.int .i64 1, .string ⟨#[]⟩, .float .f64 (floatOfInt .f64 (c / 32)), .int .u8 0, .string ⟨#[]⟩, .int .u8 0, .bool false, .slice none 0 0]]) (by simp [results, Tryz.results27, go_sem, ws2, *]) rfl ⟨⟨1, ⟨#[]⟩, floatOfInt .f64 (c / 32), 0, ⟨#[]⟩, 0, false, .slice none 0 0⟩, ?_, put8_below (put7_below HB1.out w.heap.size 0 ⟨none, strOfNums (numZ (c / 32)), 30, ws2 c⟩ (Nat.le_refl _)) (w.heap.size + 1) 0 ⟨1, ⟨#[]⟩, floatOfInt .f64 (c / 32), 0, ⟨#[]⟩, 0, false, .slice none 0 0⟩ (Nat.le_succ _), fun W D => ?_⟩
  · unfold opdTok
    have q3 := beq_eq_false_iff_ne.1 k3
    have q4 := beq_eq_false_iff_ne.1 k4
    have q5 := beq_eq_false_iff_ne.1 k5
    have q6 := beq_eq_false_iff_ne.1 k6
    have q7 := beq_eq_false_iff_ne.1 k7
    rw [ek, if_neg q3, if_neg q4, if_neg q5, if_neg q6, if_neg q7]
    rfl
  · have e2 : opdT c = .num ⟨#[]⟩ (floatOfInt .f64 (c / 32)) := by
      unfold opdT
      have q3 := beq_eq_false_iff_ne.1 k3
      have q4 := beq_eq_false_iff_ne.1 k4
      have q5 := beq_eq_false_iff_ne.1 k5
      have q6 := beq_eq_false_iff_ne.1 k6
      have q7 := beq_eq_false_iff_ne.1 k7
      rw [ek, if_neg q3, if_neg q4, if_neg q5, if_neg q6, if_neg q7]
    rw [e2]
    exact .num _ _ _ (.inl rfl)

theorem opd_any (c : Int) (w : World) (h0 : 0 ≤ c) (h1 : c ≤ 65535) : Calls Tryz.prog 27 #[.int .u16 c] w (OpdAt c w) := by
  obtain ⟨k, hk⟩ : ∃ k, bits .and .u16 c 7 = k := ⟨_, rfl⟩
  by_cases k3 : k = 3
  · exact opd_3 c w h0 h1 (hk.trans k3)
  by_cases k4 : k = 4
  · exact opd_4 c w h0 h1 (hk.trans k4)
  by_cases k5 : k = 5
  · exact opd_5 c w h0 h1 (hk.trans k5)
  by_cases k6 : k = 6
  · exact opd_6 c w h0 h1 (hk.trans k6)
  by_cases k7 : k = 7
  · exact opd_7 c w h0 h1 (hk.trans k7)
  exact opd_0 c w h0 h1 k hk (beq_eq_false_iff_ne.2 k3) (beq_eq_false_iff_ne.2 k4) (beq_eq_false_iff_ne.2 k5) (beq_eq_false_iff_ne.2 k6) (beq_eq_false_iff_ne.2 k7)

theorem opd_leaf {w : World} (hE : Env w) (c : Int) (h0 : 0 ≤ c) (h1 : c ≤ 65535) : LeafOk w (opdTok c) false (some (opdT c)) := by
  have hF := hE.fold
  by_cases k3 : opdK c = 3
  · have e1 : opdTok c = ⟨none, ⟨#[120]⟩, 30, ws2 c⟩ := by unfold opdTok; simp [k3]
    have e2 : opdT c = .val 30 ⟨#[120]⟩ (ws2 c) false := by unfold opdT; simp [k3]
    rw [e1, e2]
    exact .nonum rfl (fun W' hb => pf41_x W' (hE.below hb).syn)
  by_cases k4 : opdK c = 4
  · have e1 : opdTok c = ⟨none, ⟨#[105, 110, 102, 105, 110, 105, 116, 121]⟩, 29, ws2 c⟩ := by unfold opdTok; simp [k4]
    have e2 : opdT c = .num ⟨#[]⟩ fInf := by unfold opdT; simp [k4]
    rw [e1, e2]
    exact .inf1 rfl (ef_of hF ⟨#[105, 110, 102, 105, 110, 105, 116, 121]⟩ wInf (by decide) word_inf true (by unfold FoldEq; decide +kernel))
  by_cases k5 : opdK c = 5
  · have e1 : opdTok c = ⟨none, ⟨#[45, 73, 78, 70, 73, 78, 73, 84, 89]⟩, 29, ws2 c⟩ := by unfold opdTok; simp [k5]
    have e2 : opdT c = .num ⟨#[]⟩ fNeg := by unfold opdT; simp [k5]
    rw [e1, e2]
    exact .inf2 rfl (ef_of hF ⟨#[45, 73, 78, 70, 73, 78, 73, 84, 89]⟩ wInf (by decide) word_inf false (by unfold FoldEq; decide +kernel)) (ef_of hF ⟨#[45, 73, 78, 70, 73, 78, 73, 84, 89]⟩ wNeg (by decide) word_neg true (by unfold FoldEq; decide +kernel))
  by_cases k6 : opdK c = 6
  · have e1 : opdTok c = ⟨none, ⟨#[78, 97, 78]⟩, 29, ws2 c⟩ := by unfold opdTok; simp [k6]
    have e2 : opdT c = .num ⟨#[]⟩ fNaN := by unfold opdT; simp [k6]
    rw [e1, e2]
    exact .nan rfl (ef_of hF ⟨#[78, 97, 78]⟩ wInf (by decide) word_inf false (by unfold FoldEq; decide +kernel)) (ef_of hF ⟨#[78, 97, 78]⟩ wNeg (by decide) word_neg false (by unfold FoldEq; decide +kernel)) (ef_of hF ⟨#[78, 97, 78]⟩ wNaN (by decide) word_nan true (by unfold FoldEq; decide +kernel))
  by_cases k7 : opdK c = 7
  · have e1 : opdTok c = ⟨none, ⟨#[112, 120]⟩, 29, ws2 c⟩ := by unfold opdTok; simp [k7]
    have e2 : opdT c = .val 29 ⟨#[112, 120]⟩ (ws2 c) false := by unfold opdT; simp [k7]
    rw [e1, e2]
    exact .ident rfl (ef_of hF ⟨#[112, 120]⟩ wInf (by decide) word_inf false (by unfold FoldEq; decide +kernel)) (ef_of hF ⟨#[112, 120]⟩ wNeg (by decide) word_neg false (by unfold FoldEq; decide +kernel)) (ef_of hF ⟨#[112, 120]⟩ wNaN (by decide) word_nan false (by unfold FoldEq; decide +kernel))
  have e1 : opdTok c = ⟨none, strOfNums (numZ (c / 32)), 30, ws2 c⟩ := by unfold opdTok; simp [k3, k4, k5, k6, k7]
  have e2 : opdT c = .num ⟨#[]⟩ (floatOfInt .f64 (c / 32)) := by unfold opdT; simp [k3, k4, k5, k6, k7]
  rw [e1, e2]
  exact .num rfl _ (fun W' hb => parse_num (c / 32) (by omega) (by omega) W' (hE.below hb).tabs)

/-- An operand is no operator. -/
theorem opd_no (c : Int) : mulOp (opdT c) = false ∧ addOp (opdT c) = false ∧ ((opdTok c).kd == 23 || (opdTok c).kd == 22) = false := by
  unfold opdT opdTok
  repeat' split
  all_goals exact ⟨rfl, rfl, rfl⟩
end Go.Proofs.YthbfppnegodpoaaGreatDoor

