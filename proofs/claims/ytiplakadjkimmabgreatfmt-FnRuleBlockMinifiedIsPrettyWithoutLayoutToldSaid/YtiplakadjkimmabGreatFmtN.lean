/-
  printRule of an @layer rule with one name.
-/
import Derived.Test.YtiplakadjkimmabGreatFmtM
namespace Go.Proofs.YtiplakadjkimmabGreatFmt
open Go.RowKit Go.Deep

theorem no101 (x : Value) (w : World) : (Instr.typeAssert (.iface 95 x) 91 101 true).run Tryz.prog w = .ok (.tuple #[.pointer none, .bool false]) w := by kernel_rfl
theorem no87 (x : Value) (w : World) : (Instr.typeAssert (.iface 95 x) 91 87 true).run Tryz.prog w = .ok (.tuple #[.pointer none, .bool false]) w := by kernel_rfl
theorem no118 (x : Value) (w : World) : (Instr.typeAssert (.iface 95 x) 91 118 true).run Tryz.prog w = .ok (.tuple #[.pointer none, .bool false]) w := by kernel_rfl
theorem no150 (x : Value) (w : World) : (Instr.typeAssert (.iface 95 x) 91 150 true).run Tryz.prog w = .ok (.tuple #[.pointer none, .bool false]) w := by kernel_rfl
theorem no164 (x : Value) (w : World) : (Instr.typeAssert (.iface 95 x) 91 164 true).run Tryz.prog w = .ok (.tuple #[.pointer none, .bool false]) w := by kernel_rfl
theorem no167 (x : Value) (w : World) : (Instr.typeAssert (.iface 95 x) 91 167 true).run Tryz.prog w = .ok (.tuple #[.pointer none, .bool false]) w := by kernel_rfl
theorem no110 (x : Value) (w : World) : (Instr.typeAssert (.iface 95 x) 91 110 true).run Tryz.prog w = .ok (.tuple #[.pointer none, .bool false]) w := by kernel_rfl
theorem no111 (x : Value) (w : World) : (Instr.typeAssert (.iface 95 x) 91 111 true).run Tryz.prog w = .ok (.tuple #[.pointer none, .bool false]) w := by kernel_rfl
theorem no177 (x : Value) (w : World) : (Instr.typeAssert (.iface 95 x) 91 177 true).run Tryz.prog w = .ok (.tuple #[.pointer none, .bool false]) w := by kernel_rfl
theorem no112 (x : Value) (w : World) : (Instr.typeAssert (.iface 95 x) 91 112 true).run Tryz.prog w = .ok (.tuple #[.pointer none, .bool false]) w := by kernel_rfl
theorem u95 : Tryz.prog.underlying 95 = some (.pointer 97) := by kernel_rfl
theorem same95 (x : Value) (w : World) : (Instr.typeAssert (.iface 95 x) 91 95 true).run Tryz.prog w = .ok (.tuple #[x, .bool true]) w := by
  simp [Instr.typeAssert, run_underlying u95]

/-- print, the text behind it being named. -/
theorem print_lit (B : Nat) (mn : Bool) (ft : Nat) (l : List UInt8) (s : ByteArray) (n : Nat) (w : World) (h : Css B mn ft l w) (hs : s.size = n) (hl : l.length + n ≤ 140737488355328) :
    Calls Tryz.prog 31 #[.pointer (some ⟨B, 0, none⟩), .string s] w fun e w' => ∃ l2, e = .returned (.tuple #[]) ∧ Hid (l2 = l ++ s.data.toList) ∧ l2.length = l.length + n ∧ Hid (Css B mn ft l2 w') ∧ Hid (Bel B w w') := by
  refine (print_any' B mn ft l s w h (by omega)).mono ?_
  rintro e w' ⟨rfl, h1, h2⟩
  exact ⟨_, rfl, rfl, by rw [List.length_append, bs_len, hs], h1, h2⟩

set_option maxRecDepth 100000 in
/-- strings.Join of one text. -/
theorem join_one (Q c : Nat) (t : ByteArray) (w : World) (h : w.cell? ⟨Q, 0, none⟩ = some (.string t)) :
    Calls Tryz.prog 42 #[.slice (some ⟨Q, 0, none⟩) 1 c, .string ⟨#[46]⟩] w fun e w' => e = .returned (.string t) ∧ w = w' := by
  go_enter Tryz.func42, Tryz.ntmps42
  go_wp2_with fail
  go_ret
  exact ⟨rfl, rfl⟩

/-- An @layer rule's datum with the name t. -/
def Lay (R S Q : Nat) (t : ByteArray) (w : World) : Prop :=
  (w.cell? ⟨R, 0, none⟩ = some (.slice (some ⟨S, 0, none⟩) 1 1) ∧ w.cell? ⟨R, 1, none⟩ = some (.slice none 0 0)) ∧ w.cell? ⟨S, 0, none⟩ = some (.slice (some ⟨Q, 0, none⟩) 1 1) ∧ w.cell? ⟨Q, 0, none⟩ = some (.string t)

theorem Lay.below {B R S Q : Nat} {t : ByteArray} {w w' : World} (h : Lay R S Q t w) (hb : Below B w w') (hR : R < B) (hS : S < B) (hQ : Q < B) : Lay R S Q t w' :=
  ⟨⟨(hb.cell (p := ⟨R, 0, none⟩) hR).trans h.1.1, (hb.cell (p := ⟨R, 1, none⟩) hR).trans h.1.2⟩, (hb.cell (p := ⟨S, 0, none⟩) hS).trans h.2.1, (hb.cell (p := ⟨Q, 0, none⟩) hQ).trans h.2.2⟩

set_option maxHeartbeats 8000000 in
set_option maxRecDepth 100000 in
theorem layer_any (B R S Q : Nat) (mn : Bool) (ft : Nat) (l : List UInt8) (t : ByteArray) (z : Int) (om : Bool) (w : World) (hR : R < B) (hS : S < B) (hQ : Q < B) (hL : Lay R S Q t w) (h : Css B mn ft l w)
    (hz : -2147483648 ≤ z) (hz2 : z ≤ 70000) (hl : l.length ≤ 35184372088832) (ht : t.size ≤ 1048576) :
    Calls Tryz.prog 22 #[.pointer (some ⟨B, 0, none⟩), .agg #[.iface 95 (.pointer (some ⟨R, 0, none⟩)), .int .i32 0], .int .i32 z, .bool om] w fun e w' => e = .returned (.tuple #[]) ∧ Hid (Css B mn ft (l ++ oneR mn z.toNat t) w') ∧ Hid (Below B w w') := by
  have n101 := no101
  have n87 := no87
  have n118 := no118
  have n150 := no150
  have n164 := no164
  have n167 := no167
  have n110 := no110
  have n111 := no111
  have n177 := no177
  have n112 := no112
  have n95 := same95
  have q := fun (W : World) => Lib.run_eql_slice_nil (P := Tryz.prog) W 40 93 none 0 0 0 0 Tryz.underlying40
  have hBs := h.lt
  have HLa := fun o => Lib.hid (hL.below ((Below.refl B w).alloc (Nat.le_of_lt hBs) o) hR hS hQ)
  have HBa := fun o => Lib.hid ((Below.refl B w).alloc (Nat.le_of_lt hBs) o)
  have HCa := fun o => Lib.hid (h.alloc o)
  have HLT := Lib.hid (And.intro hR (And.intro hS hQ))
  have c3 := fun o => (HCa o).out.1.1.1
  have c6 := fun o => (HCa o).out.1.2.1.1
  have c9 := fun o => (HCa o).out.1.2.2.1
  obtain ⟨X, eX⟩ : ∃ X, X = w.heap.size := ⟨_, rfl⟩
  have hX : X ≠ B := by omega
  have hbox : Hid ((w.alloc (.cells #[.iface 95 (.pointer (some ⟨R, 0, none⟩)), .int .i32 0] 93)).heap[X]? = some (.cells #[.iface 95 (.pointer (some ⟨R, 0, none⟩)), .int .i32 0] 93 (0, 0))) := by
    rw [eX]; exact blk_alloc_new _ _
  have hXl : Hid (X < (w.alloc (.cells #[.iface 95 (.pointer (some ⟨R, 0, none⟩)), .int .i32 0] 93)).heap.size) := by
    rw [World.size_alloc, eX]; exact Nat.lt_succ_self _
  have HeX := Lib.hid eX
  clear hL hR hS hQ h
  cases mn
  · go_enter Tryz.func22, Tryz.ntmps22
    go_wp2_with fail
    refine (indent_any B false ft l z _ (HCa _).out hz (by omega) (by omega)).mono ?_
    rintro e W1 ⟨rfl, H1, B1⟩
    have HL1 := Lib.hid ((HLa _).out.below B1.out.1 HLT.out.1 HLT.out.2.1 HLT.out.2.2)
    have HB1 := Lib.hid ((HBa _).out.trans B1.out.1)
    have hbx := cell_of_row W1 X 0 _ 93 (0, 0) (B1.out.2 X _ 93 (0, 0) hXl.out hX (by decide) hbox.out)
    simp only [List.getElem?_toArray, List.getElem?_cons_zero] at hbx
    rw [eX] at hbx
    obtain ⟨l1, e1⟩ : ∃ l1, l1 = l ++ List.replicate (2 * z.toNat) (32 : UInt8) := ⟨_, rfl⟩
    have k1 : l1.length ≤ l.length + 140000 := by rw [e1, List.length_append, List.length_replicate]; omega
    rw [← e1] at H1
    have E1 := Lib.hid e1
    clear HLa HBa HCa c3 c6 c9 e1 B1
    go_wp2_with fail
    refine (print_lit B false ft l1 ⟨#[64, 108, 97, 121, 101, 114]⟩ 6 W1 H1.out (by rfl) (by omega)).mono ?_
    rintro e W2 ⟨l2, rfl, E2, k2, H2, B2⟩
    have HL2 := Lib.hid (HL1.out.below B2.out.1 HLT.out.1 HLT.out.2.1 HLT.out.2.2)
    have HB2 := Lib.hid (HB1.out.trans B2.out.1)
    obtain ⟨⟨d0, d1⟩, ds, dq⟩ := HL2.out
    go_wp2_with fail
    refine wp_loop_rounds 2 ?_
    rw [rounds_succ]
    go_wp2_with fail
    refine (print_lit B false ft l2 ⟨#[32]⟩ 1 W2 H2.out (by rfl) (by omega)).mono ?_
    rintro e W3 ⟨l3, rfl, E3, k3, H3, B3⟩
    have HL3 := Lib.hid (HL2.out.below B3.out.1 HLT.out.1 HLT.out.2.1 HLT.out.2.2)
    have HB3 := Lib.hid (HB2.out.trans B3.out.1)
    go_wp2_with fail
    refine (join_one Q 1 t W3 HL3.out.2.2).mono ?_
    rintro e w' ⟨rfl, rfl⟩
    go_wp2_with fail
    refine (print_lit B false ft l3 t t.size W3 H3.out (by rfl) (by omega)).mono ?_
    rintro e W4 ⟨l4, rfl, E4, k4, H4, B4⟩
    have HL4 := Lib.hid (HL3.out.below B4.out.1 HLT.out.1 HLT.out.2.1 HLT.out.2.2)
    have HB4 := Lib.hid (HB3.out.trans B4.out.1)
    clear d0 d1 ds dq
    have d1 := HL4.out.1.2
    go_wp2_with fail
    rw [rounds_succ]
    go_wp2_with fail
    refine (print_lit B false ft l4 ⟨#[59]⟩ 1 W4 H4.out (by rfl) (by omega)).mono ?_
    rintro e W5 ⟨l5, rfl, E5, k5, H5, B5⟩
    have HB5 := Lib.hid (HB4.out.trans B5.out.1)
    have c6 := H5.out.1.2.1.1
    go_wp2_with fail
    refine (print_lit B false ft l5 ⟨#[10]⟩ 1 W5 H5.out (by rfl) (by omega)).mono ?_
    rintro e W6 ⟨l6, rfl, E6, k6, H6, B6⟩
    have HB6 := Lib.hid (HB5.out.trans B6.out.1)
    go_wp2_with fail
    refine bodyPost_end (v := .tuple #[]) (by simp [results, Tryz.results22, go_sem]) rfl ?_
    refine ⟨rfl, ?_, HB6⟩
    have e : l ++ oneR false z.toNat t = l6 := by
      rw [E6.out, E5.out, E4.out, E3.out, E2.out, E1.out]
      simp [oneR, layB]
    show Css _ _ _ _ _
    rw [e]
    exact H6.out
  · go_enter Tryz.func22, Tryz.ntmps22
    go_wp2_with fail
    refine (print_lit B true ft l ⟨#[64, 108, 97, 121, 101, 114]⟩ 6 _ (HCa _).out (by rfl) (by omega)).mono ?_
    rintro e W2 ⟨l2, rfl, E2, k2, H2, B2⟩
    have HL2 := Lib.hid ((HLa _).out.below B2.out.1 HLT.out.1 HLT.out.2.1 HLT.out.2.2)
    have HB2 := Lib.hid ((HBa _).out.trans B2.out.1)
    obtain ⟨⟨d0, d1⟩, ds, dq⟩ := HL2.out
    clear HLa HBa HCa c3 c6 c9
    go_wp2_with fail
    refine wp_loop_rounds 2 ?_
    rw [rounds_succ]
    go_wp2_with fail
    refine (print_lit B true ft l2 ⟨#[32]⟩ 1 W2 H2.out (by rfl) (by omega)).mono ?_
    rintro e W3 ⟨l3, rfl, E3, k3, H3, B3⟩
    have HL3 := Lib.hid (HL2.out.below B3.out.1 HLT.out.1 HLT.out.2.1 HLT.out.2.2)
    have HB3 := Lib.hid (HB2.out.trans B3.out.1)
    go_wp2_with fail
    refine (join_one Q 1 t W3 HL3.out.2.2).mono ?_
    rintro e w' ⟨rfl, rfl⟩
    go_wp2_with fail
    refine (print_lit B true ft l3 t t.size W3 H3.out (by rfl) (by omega)).mono ?_
    rintro e W4 ⟨l4, rfl, E4, k4, H4, B4⟩
    have HL4 := Lib.hid (HL3.out.below B4.out.1 HLT.out.1 HLT.out.2.1 HLT.out.2.2)
    have HB4 := Lib.hid (HB3.out.trans B4.out.1)
    clear d0 d1 ds dq
    have d1 := HL4.out.1.2
    go_wp2_with fail
    rw [rounds_succ]
    go_wp2_with fail
    refine (print_lit B true ft l4 ⟨#[59]⟩ 1 W4 H4.out (by rfl) (by omega)).mono ?_
    rintro e W5 ⟨l5, rfl, E5, k5, H5, B5⟩
    have HB5 := Lib.hid (HB4.out.trans B5.out.1)
    have c6 := H5.out.1.2.1.1
    go_wp2_with fail
    refine bodyPost_end (v := .tuple #[]) (by simp [results, Tryz.results22, go_sem]) rfl ?_
    refine ⟨rfl, ?_, HB5⟩
    have e : l ++ oneR true z.toNat t = l5 := by
      rw [E5.out, E4.out, E3.out, E2.out]
      simp [oneR, layB]
    show Css _ _ _ _ _
    rw [e]
    exact H5.out
end Go.Proofs.YtiplakadjkimmabGreatFmt
