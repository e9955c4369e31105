/-
  The law FnPrintRuleCharsetQuoted: printRule of @charset, the export, and the law's walk.
-/
import Derived.Test.YtiplakadjkimmabGreatFmtX
namespace Go.Proofs.YtiplakadjkimmabGreatFmt
open Go.RowKit Go.Deep Go.PlainAid

theorem u87 : Tryz.prog.underlying 87 = some (.pointer 89) := by kernel_rfl
theorem no101c (x : Value) (w : World) : (Instr.typeAssert (.iface 87 x) 91 101 true).run Tryz.prog w = .ok (.tuple #[.pointer none, .bool false]) w := by kernel_rfl
theorem same87 (x : Value) (w : World) : (Instr.typeAssert (.iface 87 x) 91 87 true).run Tryz.prog w = .ok (.tuple #[x, .bool true]) w := by
  simp [Instr.typeAssert, run_underlying u87]

/-- "@charset ". -/
def chsB : List UInt8 := [64, 99, 104, 97, 114, 115, 101, 116, 32]
/-- The rule as it is printed. -/
def chR (mn : Bool) (s : ByteArray) : List UInt8 := chsB ++ ([34] ++ (bodyE s s.size ++ [34, 59])) ++ (if mn then [] else [10])

/-- print, the text behind it being named. -/
theorem print_lit2 (B : Nat) (mn : Bool) (ft : Nat) (l : List UInt8) (s : ByteArray) (n : Nat) (w : World) (h : Css B mn ft l w) (hs : s.size = n) (hl : l.length + n ≤ 140737488355328) :
    Calls Tryz.prog 31 #[.pointer (some ⟨B, 0, none⟩), .string s] w fun e w' => ∃ l2, e = .returned (.tuple #[]) ∧ Hid (l2 = l ++ s.data.toList) ∧ l2.length = l.length + n ∧ Hid (Css B mn ft l2 w') ∧ Hid (Bel B w w') := by
  refine (print_any' B mn ft l s w h (by omega)).mono ?_
  rintro e w' ⟨rfl, h1, h2⟩
  exact ⟨_, rfl, rfl, by rw [List.length_append, bs_len, hs], h1, h2⟩

set_option maxHeartbeats 8000000 in
set_option maxRecDepth 100000 in
theorem charset_any (B R : Nat) (mn : Bool) (s : ByteArray) (w : World) (hRB : R ≠ B) (hR : w.heap[R]? = some (.cells #[.string s] 89 (0, 0))) (h : Css B mn 0 [] w) (hs : s.size ≤ 1048576) (hp : ∀ i, i < s.size → 32 ≤ bt s i ∧ bt s i ≤ 126) :
    Calls Tryz.prog 22 #[.pointer (some ⟨B, 0, none⟩), .agg #[.iface 87 (.pointer (some ⟨R, 0, none⟩)), .int .i32 0], .int .i32 0, .bool false] w fun e w' => e = .returned (.tuple #[]) ∧ Hid (Css B mn 0 (chR mn s) w') ∧ Hid (Below B w w') := by
  have n101 := no101c
  have n87 := same87
  have hBs := h.lt
  have HBa := fun o => Lib.hid ((Below.refl B w).alloc (Nat.le_of_lt hBs) o)
  have HCa := fun o => Lib.hid (h.alloc o)
  have hP := Lib.hid (And.intro hs (And.intro hp hRB))
  have c3 := fun o => (HCa o).out.1.1.1
  have c6 := fun o => (HCa o).out.1.2.1.1
  have c9 := fun o => (HCa o).out.1.2.2.1
  obtain ⟨X, eX⟩ : ∃ X, X = w.heap.size := ⟨_, rfl⟩
  have hX : X ≠ B := by omega
  have hbox : Hid ((w.alloc (.cells #[.iface 87 (.pointer (some ⟨R, 0, none⟩)), .int .i32 0] 93)).heap[X]? = some (.cells #[.iface 87 (.pointer (some ⟨R, 0, none⟩)), .int .i32 0] 93 (0, 0))) := by
    rw [eX]; exact blk_alloc_new _ _
  have hXl : Hid (X < (w.alloc (.cells #[.iface 87 (.pointer (some ⟨R, 0, none⟩)), .int .i32 0] 93)).heap.size) := by
    rw [World.size_alloc, eX]; exact Nat.lt_succ_self _
  have hRa : Hid ((w.alloc (.cells #[.iface 87 (.pointer (some ⟨R, 0, none⟩)), .int .i32 0] 93)).heap[R]? = some (.cells #[.string s] 89 (0, 0))) := by
    rw [Below.heap_alloc _ _ _ (Array.getElem?_eq_some_iff.1 hR).1]; exact hR
  have hRl : Hid (R < (w.alloc (.cells #[.iface 87 (.pointer (some ⟨R, 0, none⟩)), .int .i32 0] 93)).heap.size) := (Array.getElem?_eq_some_iff.1 hRa.out).1
  clear hs hp hRB hR h
  cases mn
  · go_enter Tryz.func22, Tryz.ntmps22
    go_wp2_with fail
    refine (indent_any B false 0 [] 0 _ (HCa _).out (by decide) (by decide) (by simp)).mono ?_
    rintro e W1 ⟨rfl, H1, B1⟩
    rw [show ([] : List UInt8) ++ List.replicate (2 * Int.toNat 0) 32 = [] from rfl] at H1
    have hbx := cell_of_row W1 X 0 _ 93 (0, 0) (B1.out.2 X _ 93 (0, 0) hXl.out hX (by decide) hbox.out)
    simp only [List.getElem?_toArray, List.getElem?_cons_zero] at hbx
    rw [eX] at hbx
    have HR1 := Lib.hid (B1.out.2 R _ 89 (0, 0) hRl.out hP.out.2.2 (by decide) hRa.out)
    have HB1 := Lib.hid ((HBa _).out.trans B1.out.1)
    clear HBa HCa c3 c6 c9 B1
    go_wp2_with fail
    refine (print_lit2 B false 0 [] ⟨#[64, 99, 104, 97, 114, 115, 101, 116, 32]⟩ 9 W1 H1.out (by rfl) (by simp)).mono ?_
    rintro e W2 ⟨l2, rfl, E2, k2, H2, B2⟩
    have HR2 := Lib.hid (B2.out.2 R _ 89 (0, 0) (Array.getElem?_eq_some_iff.1 HR1.out).1 hP.out.2.2 (by decide) HR1.out)
    have HB2 := Lib.hid (HB1.out.trans B2.out.1)
    have r0 := cell_of_row W2 R 0 _ 89 (0, 0) HR2.out
    simp only [List.getElem?_toArray, List.getElem?_cons_zero] at r0
    have hk2 : l2.length ≤ 9 := by rw [k2]; simp
    go_wp2_with fail
    refine (quoted_any B false l2 s W2 H2.out (by omega) hP.out.1 hP.out.2.1).mono ?_
    rintro e W3 ⟨rfl, H3, B3⟩
    obtain ⟨l3, e3⟩ : ∃ l3, l3 = (l2 ++ [34]) ++ bodyE s s.size ++ [(34 : UInt8)] := ⟨_, rfl⟩
    have k3 : l3.length ≤ 3000000 := by
      have h1 := bodyE_len s s.size
      have h2 := hP.out.1
      rw [e3, List.length_append, List.length_append, List.length_append]
      show l2.length + 1 + _ + 1 ≤ _
      omega
    rw [← e3] at H3
    have E3 := Lib.hid e3
    have HB3 := Lib.hid (HB2.out.trans B3.out.1)
    clear e3 r0
    go_wp2_with fail
    refine (print_lit2 B false 0 l3 ⟨#[59]⟩ 1 W3 H3.out (by rfl) (by omega)).mono ?_
    rintro e W4 ⟨l4, rfl, E4, k4, H4, B4⟩
    have HB4 := Lib.hid (HB3.out.trans B4.out.1)
    have c6 := H4.out.1.2.1.1
    go_wp2_with fail
    refine (print_lit2 B false 0 l4 ⟨#[10]⟩ 1 W4 H4.out (by rfl) (by omega)).mono ?_
    rintro e W5 ⟨l5, rfl, E5, k5, H5, B5⟩
    go_wp2_with fail
    refine bodyPost_end (v := .tuple #[]) (by simp [results, Tryz.results22, go_sem]) rfl ?_
    refine ⟨rfl, ?_, HB4.out.trans B5.out.1⟩
    have e : chR false s = l5 := by
      rw [E5.out, E4.out, E3.out, E2.out]
      simp [chR, chsB]
    show Css _ _ _ _ _
    rw [e]
    exact H5.out
  · go_enter Tryz.func22, Tryz.ntmps22
    go_wp2_with fail
    refine (print_lit2 B true 0 [] ⟨#[64, 99, 104, 97, 114, 115, 101, 116, 32]⟩ 9 _ (HCa _).out (by rfl) (by simp)).mono ?_
    rintro e W2 ⟨l2, rfl, E2, k2, H2, B2⟩
    have HR2 := Lib.hid (B2.out.2 R _ 89 (0, 0) hRl.out hP.out.2.2 (by decide) hRa.out)
    have HB2 := Lib.hid ((HBa _).out.trans B2.out.1)
    clear HBa HCa c3 c6 c9 B2
    have r0 := cell_of_row W2 R 0 _ 89 (0, 0) HR2.out
    simp only [List.getElem?_toArray, List.getElem?_cons_zero] at r0
    have hk2 : l2.length ≤ 9 := by rw [k2]; simp
    go_wp2_with fail
    refine (quoted_any B true l2 s W2 H2.out (by omega) hP.out.1 hP.out.2.1).mono ?_
    rintro e W3 ⟨rfl, H3, B3⟩
    obtain ⟨l3, e3⟩ : ∃ l3, l3 = (l2 ++ [34]) ++ bodyE s s.size ++ [(34 : UInt8)] := ⟨_, rfl⟩
    have k3 : l3.length ≤ 3000000 := by
      have h1 := bodyE_len s s.size
      have h2 := hP.out.1
      rw [e3, List.length_append, List.length_append, List.length_append]
      show l2.length + 1 + _ + 1 ≤ _
      omega
    rw [← e3] at H3
    have E3 := Lib.hid e3
    have HB3 := Lib.hid (HB2.out.trans B3.out.1)
    clear e3 r0
    go_wp2_with fail
    refine (print_lit2 B true 0 l3 ⟨#[59]⟩ 1 W3 H3.out (by rfl) (by omega)).mono ?_
    rintro e W4 ⟨l4, rfl, E4, k4, H4, B4⟩
    have HB4 := Lib.hid (HB3.out.trans B4.out.1)
    have c6 := H4.out.1.2.1.1
    go_wp2_with fail
    refine bodyPost_end (v := .tuple #[]) (by simp [results, Tryz.results22, go_sem]) rfl ?_
    refine ⟨rfl, ?_, HB4⟩
    have e : chR true s = l4 := by
      rw [E4.out, E3.out, E2.out]
      simp [chR, chsB]
    show Css _ _ _ _ _
    rw [e]
    exact H4.out
end Go.Proofs.YtiplakadjkimmabGreatFmt
