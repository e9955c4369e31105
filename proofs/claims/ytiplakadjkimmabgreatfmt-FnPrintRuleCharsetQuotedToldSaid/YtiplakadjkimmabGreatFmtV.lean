/-
  The law FnPrintRuleCharsetQuoted: printQuotedWithQuote.
-/
import Derived.Test.YtiplakadjkimmabGreatFmtU
import Derived.Deep.CutBlock
namespace Go.Proofs.YtiplakadjkimmabGreatFmt
open Go.RowKit Go.Deep Go.PlainAid

/-- The bytes from r up to k. -/
def piece (s : ByteArray) (r k : Nat) : List UInt8 := (s.data.toList.drop r).take (k - r)
theorem piece_eq (s : ByteArray) (r k : Nat) : (s.extract r k).data.toList = piece s r k := by
  rw [ByteArray.data_extract]
  unfold piece
  simp
theorem piece_nil (s : ByteArray) (r k : Nat) (h : k ≤ r) : piece s r k = [] := by
  unfold piece
  rw [show k - r = 0 by omega, List.take_zero]
theorem piece_snoc (s : ByteArray) (r k : Nat) (h : r ≤ k) (hk : k < s.size) : piece s r (k + 1) = piece s r k ++ [by8 s k] := by
  unfold piece by8
  have hl := bs_len s
  rw [show k + 1 - r = (k - r) + 1 by omega, List.take_succ_eq_append_getElem (by rw [List.length_drop]; omega), List.getElem_drop, List.getD_eq_getElem?_getD, List.getElem?_eq_getElem (by omega)]
  simp only [show r + (k - r) = k by omega]
  rfl

/-- append of a text, as a step of a region that draws. -/
theorem step_append_str {P : Program} (w : World) {ops : Array Oper} {o : Oper} {a : Act} {K : Act → World → Prop} {Q : Exit → Act → World → Prop} {E : Prop} (hgd : o.guard = none) (sl x : Operand) (t u : TypeId)
    (ho : o.op = .call { callee := .builtin .append, args := #[sl, x], argTypes := #[t, u] })
    (base : Nat) (e : TypeId) (i : TypeInfo) (ht : P.underlying t = some (.slice e)) (hu : P.underlying u = some .string) (hi : P.info? e = some i) (hz : i.zero = some (.int .u8 0))
    (hsize : i.size = 1) (hby : i.bytes = 1)
    (v : Value) (n : Nat) (xs : List Value) (hs : a.eval sl = v) (hown : w.ownsRow base e 1 v n xs) (s : ByteArray) (hx : a.eval x = .string s)
    (h63 : n + s.size ≤ maxLen) (hbytes : n + s.size ≤ 140737488355328) (hbase : base ≤ w.heap.size)
    (h : ∀ sa sn sm w', w'.ownsRow base e 1 (.slice sa sn sm) (n + s.size) (xs ++ Lib.strCells s) → w.grownBy w' v.ownBlock → K (a.put o.dst (.slice sa sn sm)) w') :
    if Region.wanted o (yielded ops a.tmps) = true then Oper.wp P o a w K Q else E := by
  have hw : Region.wanted o (yielded ops a.tmps) = true := by simp [Region.wanted, hgd]
  rw [if_pos hw]
  obtain ⟨v', w', hr, h2, h3, _⟩ := Lib.run_append_own_string (P := P) w base t u o.type e i ht hu hi hz hsize hby v n xs hown s h63 hbytes hbase
  obtain ⟨sa, sn, sm, rfl⟩ := own_slice h2
  unfold Oper.wp execOp
  simp only [ho, resolve, invoke, builtin, Sem.run_bind, Sem.run_pure, Result.andThen_ok, List.map_toArray, List.map_cons, List.map_nil, hs, hx, hr]
  exact h sa sn sm w' h2 h3

theorem asc_styl : Asc styl := by
  intro i hi
  have : i < 5 := hi
  have h : ∀ i, i < 5 → bt styl i < 128 := by decide
  exact h i this

theorem esc_3 {s : ByteArray} {k : Nat} (h : escB s k = true) : by8 s k = 92 ∨ by8 s k = 34 ∨ by8 s k = 47 := by
  have hb := bt_by s k
  by_cases h92 : bt s k = 92
  · exact .inl (UInt8.toNat_inj.1 (by show (by8 s k).toNat = 92; omega))
  by_cases h34 : bt s k = 34
  · exact .inr (.inl (UInt8.toNat_inj.1 (by show (by8 s k).toNat = 34; omega)))
  by_cases h47 : bt s k = 47
  · exact .inr (.inr (UInt8.toNat_inj.1 (by show (by8 s k).toNat = 47; omega)))
  rw [esc_other h92 h34 h47] at h
  cases h

/-- The block n in the code. -/
def fb (n : Nat) : Code → Option Code
  | .seq a b => match fb n a with
    | some c => some c
    | none => fb n b
  | .cond _ a b => match fb n a with
    | some c => some c
    | none => fb n b
  | .block i b => if i = n then some (.block i b) else fb n b
  | .loop b => fb n b
  | _ => none

set_option maxHeartbeats 16000000 in
set_option maxRecDepth 100000 in
theorem switch_wp {d : Code} (hcode : Tryz.f32.body.bind (fb 2) = some (.block 2 d)) (Q : Exit → Act → World → Prop) (B : Nat) (mn : Bool) (ll : List UInt8) (s : ByteArray) (k : Nat) (x : Int) (wr : World) {x3 x4 x5 x6 x7 x8 x10 x11 x12 x14 x16 x17 x18 x19 x20 x21 x22 x23 x24 x25 x26 x27 x28 x29 x30 x31 x32 x33 x34 x35 x36 x37 x38 x39 x40 x41 x42 x43 x44 x45 x46 x47 x48 x49 x50 x51 x52 x53 x54 x55 x56 x57 x58 x59 x60 x61 x62 x63 x64 x65 x66 x67 x68 x69 x70 x71 x72 x73 x74 x75 x76 x77 x78 x79 x80 x81 x82 x83 x84 x85 x86 x87 x88 x89 x90 x91 x92 x93 x94 x95 x96 x97 x98 x99 x100 x101 x102 x103 x104 x105 x106 x107 x108 x109 x110 x111 x113 x114 x115 x116 x117 x118 x119 x120 x121 x122 x123 x124 x125 x126 x127 x128 x129 x130 x131 x132 x133 x134 x135 x136 x137 x138 x139 x140 x141 x142 x143 x144 x145 x146 x147 x148 x149 x150 x151 x152 x153 x154 x155 x156 x157 x158 x159 x160 x161 x162 x163 x164 x165 x166 x167 x168 x169 x170 x171 x172 x173 x174 x175 x176 x177 x178 x179 x180 x181 x182 x183 x184 x185 x186 x187 x188 x189 x190 x191 x192 x193 x194 x195 x196 x197 x198 x199 x200 x201 x202 x203 x204 x205 x206 x207 x208 x209 x210 x211 x212 x213 x214 x215 x216 x217 x218 x219 x220 x221 x222 x223 x224 x225 x226 x227 x228 x229 x230 x231 x232 x233 x234 x235 x236 : Value}
    (hs : s.size ≤ 1048576) (hlt : k < s.size) (HPR : Hid (∀ i, i < s.size → 32 ≤ bt s i ∧ bt s i ≤ 126)) (HX : Hid (bt s k = x)) (HC : Hid (Css B mn 0 ll wr))
    (hQ : ∀ (esc : Int) (y113 y114 y115 y116 y117 y118 y119 y120 y121 y122 y123 y124 y125 y126 y127 y128 y129 y130 y131 y132 y133 y134 y135 y136 y137 y138 y139 y140 y141 y142 y143 y144 y145 y146 y147 y148 y149 y150 y151 y152 y153 y154 y155 y156 y157 y158 y159 y160 y161 y162 y163 y164 y165 y166 y167 y168 y169 y170 y171 y172 y173 y174 y175 y176 y177 y178 y179 y180 : Value), (escB s k = true → esc = 1) → (escB s k = false → esc = 0) → Q .normal { tmps := #[.pointer (some ⟨B, 0, none⟩), .string s, .int .u8 34, x3, x4, x5, x6, x7, x8, .int .i64 (k : Int), x10, x11, x12, .int .i32 x, x14, .int .u8 esc, x16, x17, x18, x19, x20, x21, x22, x23, x24, x25, x26, x27, x28, x29, x30, x31, x32, x33, x34, x35, x36, x37, x38, x39, x40, x41, x42, x43, x44, x45, x46, x47, x48, x49, x50, x51, x52, x53, x54, x55, x56, x57, x58, x59, x60, x61, x62, x63, x64, x65, x66, x67, x68, x69, x70, x71, x72, x73, x74, x75, x76, x77, x78, x79, x80, x81, x82, x83, x84, x85, x86, x87, x88, x89, x90, x91, x92, x93, x94, x95, x96, x97, x98, x99, x100, x101, x102, x103, x104, x105, x106, x107, x108, x109, x110, x111, .int .i32 x, y113, y114, y115, y116, y117, y118, y119, y120, y121, y122, y123, y124, y125, y126, y127, y128, y129, y130, y131, y132, y133, y134, y135, y136, y137, y138, y139, y140, y141, y142, y143, y144, y145, y146, y147, y148, y149, y150, y151, y152, y153, y154, y155, y156, y157, y158, y159, y160, y161, y162, y163, y164, y165, y166, y167, y168, y169, y170, y171, y172, y173, y174, y175, y176, y177, y178, y179, y180, x181, x182, x183, x184, x185, x186, x187, x188, x189, x190, x191, x192, x193, x194, x195, x196, x197, x198, x199, x200, x201, x202, x203, x204, x205, x206, x207, x208, x209, x210, x211, x212, x213, x214, x215, x216, x217, x218, x219, x220, x221, x222, x223, x224, x225, x226, x227, x228, x229, x230, x231, x232, x233, x234, x235, x236], defers := [] } wr) :
    Code.wp Tryz.prog (.block 2 d) Q { tmps := #[.pointer (some ⟨B, 0, none⟩), .string s, .int .u8 34, x3, x4, x5, x6, x7, x8, .int .i64 (k : Int), x10, x11, x12, .int .i32 x, x14, .int .u8 0, x16, x17, x18, x19, x20, x21, x22, x23, x24, x25, x26, x27, x28, x29, x30, x31, x32, x33, x34, x35, x36, x37, x38, x39, x40, x41, x42, x43, x44, x45, x46, x47, x48, x49, x50, x51, x52, x53, x54, x55, x56, x57, x58, x59, x60, x61, x62, x63, x64, x65, x66, x67, x68, x69, x70, x71, x72, x73, x74, x75, x76, x77, x78, x79, x80, x81, x82, x83, x84, x85, x86, x87, x88, x89, x90, x91, x92, x93, x94, x95, x96, x97, x98, x99, x100, x101, x102, x103, x104, x105, x106, x107, x108, x109, x110, x111, .int .i32 x, x113, x114, x115, x116, x117, x118, x119, x120, x121, x122, x123, x124, x125, x126, x127, x128, x129, x130, x131, x132, x133, x134, x135, x136, x137, x138, x139, x140, x141, x142, x143, x144, x145, x146, x147, x148, x149, x150, x151, x152, x153, x154, x155, x156, x157, x158, x159, x160, x161, x162, x163, x164, x165, x166, x167, x168, x169, x170, x171, x172, x173, x174, x175, x176, x177, x178, x179, x180, x181, x182, x183, x184, x185, x186, x187, x188, x189, x190, x191, x192, x193, x194, x195, x196, x197, x198, x199, x200, x201, x202, x203, x204, x205, x206, x207, x208, x209, x210, x211, x212, x213, x214, x215, x216, x217, x218, x219, x220, x221, x222, x223, x224, x225, x226, x227, x228, x229, x230, x231, x232, x233, x234, x235, x236], defers := [] } wr := by
  have key : ∀ {D : Code}, Tryz.f32.body.bind (fb 2) = some (.block 2 D) → Code.wp Tryz.prog (.block 2 D) Q { tmps := #[.pointer (some ⟨B, 0, none⟩), .string s, .int .u8 34, x3, x4, x5, x6, x7, x8, .int .i64 (k : Int), x10, x11, x12, .int .i32 x, x14, .int .u8 0, x16, x17, x18, x19, x20, x21, x22, x23, x24, x25, x26, x27, x28, x29, x30, x31, x32, x33, x34, x35, x36, x37, x38, x39, x40, x41, x42, x43, x44, x45, x46, x47, x48, x49, x50, x51, x52, x53, x54, x55, x56, x57, x58, x59, x60, x61, x62, x63, x64, x65, x66, x67, x68, x69, x70, x71, x72, x73, x74, x75, x76, x77, x78, x79, x80, x81, x82, x83, x84, x85, x86, x87, x88, x89, x90, x91, x92, x93, x94, x95, x96, x97, x98, x99, x100, x101, x102, x103, x104, x105, x106, x107, x108, x109, x110, x111, .int .i32 x, x113, x114, x115, x116, x117, x118, x119, x120, x121, x122, x123, x124, x125, x126, x127, x128, x129, x130, x131, x132, x133, x134, x135, x136, x137, x138, x139, x140, x141, x142, x143, x144, x145, x146, x147, x148, x149, x150, x151, x152, x153, x154, x155, x156, x157, x158, x159, x160, x161, x162, x163, x164, x165, x166, x167, x168, x169, x170, x171, x172, x173, x174, x175, x176, x177, x178, x179, x180, x181, x182, x183, x184, x185, x186, x187, x188, x189, x190, x191, x192, x193, x194, x195, x196, x197, x198, x199, x200, x201, x202, x203, x204, x205, x206, x207, x208, x209, x210, x211, x212, x213, x214, x215, x216, x217, x218, x219, x220, x221, x222, x223, x224, x225, x226, x227, x228, x229, x230, x231, x232, x233, x234, x235, x236], defers := [] } wr → Code.wp Tryz.prog (.block 2 d) Q { tmps := #[.pointer (some ⟨B, 0, none⟩), .string s, .int .u8 34, x3, x4, x5, x6, x7, x8, .int .i64 (k : Int), x10, x11, x12, .int .i32 x, x14, .int .u8 0, x16, x17, x18, x19, x20, x21, x22, x23, x24, x25, x26, x27, x28, x29, x30, x31, x32, x33, x34, x35, x36, x37, x38, x39, x40, x41, x42, x43, x44, x45, x46, x47, x48, x49, x50, x51, x52, x53, x54, x55, x56, x57, x58, x59, x60, x61, x62, x63, x64, x65, x66, x67, x68, x69, x70, x71, x72, x73, x74, x75, x76, x77, x78, x79, x80, x81, x82, x83, x84, x85, x86, x87, x88, x89, x90, x91, x92, x93, x94, x95, x96, x97, x98, x99, x100, x101, x102, x103, x104, x105, x106, x107, x108, x109, x110, x111, .int .i32 x, x113, x114, x115, x116, x117, x118, x119, x120, x121, x122, x123, x124, x125, x126, x127, x128, x129, x130, x131, x132, x133, x134, x135, x136, x137, x138, x139, x140, x141, x142, x143, x144, x145, x146, x147, x148, x149, x150, x151, x152, x153, x154, x155, x156, x157, x158, x159, x160, x161, x162, x163, x164, x165, x166, x167, x168, x169, x170, x171, x172, x173, x174, x175, x176, x177, x178, x179, x180, x181, x182, x183, x184, x185, x186, x187, x188, x189, x190, x191, x192, x193, x194, x195, x196, x197, x198, x199, x200, x201, x202, x203, x204, x205, x206, x207, x208, x209, x210, x211, x212, x213, x214, x215, x216, x217, x218, x219, x220, x221, x222, x223, x224, x225, x226, x227, x228, x229, x230, x231, x232, x233, x234, x235, x236], defers := [] } wr := fun e h => by
    rw [e] at hcode
    cases hcode
    exact h
  refine key rfl ?_
  clear key hcode
  have hk1 : (k : Int) < (s.size : Int) := by omega
  have hpr := HPR.out k hlt
  rw [HX.out] at hpr
  have hb := get_bt s
  have c3 := HC.out.1.1.1
  have c5 := HC.out.1.1.2
  have c7 := HC.out.1.2.1.2
  by_cases h92 : x = 92
  · subst h92
    have he : escB s k = true := by unfold escB; rw [HX.out]; rfl
    go_wp2_with (fail)
    exact hQ _ _ _ _ _ _ _ _ _ _ _ _ _ _ _ _ _ _ _ _ _ _ _ _ _ _ _ _ _ _ _ _ _ _ _ _ _ _ _ _ _ _ _ _ _ _ _ _ _ _ _ _ _ _ _ _ _ _ _ _ _ _ _ _ _ _ _ _ _ (fun _ => rfl) (fun h => by rw [he] at h; cases h)
  by_cases h34 : x = 34
  · subst h34
    have he : escB s k = true := by unfold escB; rw [HX.out]; rfl
    go_wp2_with (fail)
    exact hQ _ _ _ _ _ _ _ _ _ _ _ _ _ _ _ _ _ _ _ _ _ _ _ _ _ _ _ _ _ _ _ _ _ _ _ _ _ _ _ _ _ _ _ _ _ _ _ _ _ _ _ _ _ _ _ _ _ _ _ _ _ _ _ _ _ _ _ _ _ (fun _ => rfl) (fun h => by rw [he] at h; cases h)
  by_cases h47 : x = 47
  · subst h47
    by_cases h0 : k = 0
    · have he : escB s k = false := by rw [esc_47 HX.out, h0]; rfl
      have k0 : ¬ (1 : Int) ≤ (k : Int) := by omega
      clear h0
      go_wp2_with (first | (go_at_call 49; refine (has_none _).mono ?_; rintro e w' ⟨rfl, rfl⟩) | fail)
      exact hQ _ _ _ _ _ _ _ _ _ _ _ _ _ _ _ _ _ _ _ _ _ _ _ _ _ _ _ _ _ _ _ _ _ _ _ _ _ _ _ _ _ _ _ _ _ _ _ _ _ _ _ _ _ _ _ _ _ _ _ _ _ _ _ _ _ _ _ _ _ (fun h => by rw [he] at h; cases h) (fun _ => rfl)
    have k0 : (1 : Int) ≤ (k : Int) := by omega
    obtain ⟨k', ek⟩ : ∃ k', k = k' + 1 := ⟨k - 1, by omega⟩
    have ci : ((k : Int) - 1).toNat = k' := by omega
    have cj : ((k : Int) - 1) < (s.size : Int) := by omega
    obtain ⟨y, hy⟩ : ∃ y : Int, bt s k' = y := ⟨_, rfl⟩
    have HY := Lib.hid hy
    have HK := Lib.hid ek
    clear ek h0
    by_cases h60 : y = 60
    · subst h60
      have HH2 : Hid (escB s k = sty s (k + 1)) := by show _ = _; rw [esc_47 HX.out, HK.out, hit_succ HY.out]
      by_cases hfit : k + 6 ≤ s.size
      · have hfit1 : (k : Int) + 6 ≤ (s.size : Int) := by omega
        have hse : (s.extract (k + 1) (k + 6)).size = 5 := by rw [size_extract _ _ _ hfit]; omega
        have hef := fun W => equalfold_ascii (s.extract (k + 1) (k + 6)) styl W (by omega) (fun i hi => by rw [bt_extract _ _ _ _ hfit (by omega)]; have := HPR.out (k + 1 + i) (by omega); omega) asc_styl
        have hsty : sty s (k + 1) = (lowb (s.extract (k + 1) (k + 6)) == lowb styl) := by
          unfold sty
          rw [decide_eq_true (by omega)]; rfl
        rw [← hsty] at hef
        obtain ⟨z, hz⟩ : ∃ z, z = sty s (k + 1) := ⟨_, rfl⟩
        rw [← hz] at hef HH2
        have HEF := Lib.hid hef
        clear hef hsty hz hse
        cases z
        · have he : escB s k = false := HH2.out
          go_wp2_with (first | (go_at_call 49; refine (has_none _).mono ?_; rintro e w' ⟨rfl, rfl⟩) | (go_at_call 50; refine (HEF.out _).mono ?_; rintro e w' ⟨rfl, rfl⟩) | fail)
          exact hQ _ _ _ _ _ _ _ _ _ _ _ _ _ _ _ _ _ _ _ _ _ _ _ _ _ _ _ _ _ _ _ _ _ _ _ _ _ _ _ _ _ _ _ _ _ _ _ _ _ _ _ _ _ _ _ _ _ _ _ _ _ _ _ _ _ _ _ _ _ (fun h => by rw [he] at h; cases h) (fun _ => rfl)
        · have he : escB s k = true := HH2.out
          go_wp2_with (first | (go_at_call 49; refine (has_none _).mono ?_; rintro e w' ⟨rfl, rfl⟩) | (go_at_call 50; refine (HEF.out _).mono ?_; rintro e w' ⟨rfl, rfl⟩) | fail)
          exact hQ _ _ _ _ _ _ _ _ _ _ _ _ _ _ _ _ _ _ _ _ _ _ _ _ _ _ _ _ _ _ _ _ _ _ _ _ _ _ _ _ _ _ _ _ _ _ _ _ _ _ _ _ _ _ _ _ _ _ _ _ _ _ _ _ _ _ _ _ _ (fun _ => rfl) (fun h => by rw [he] at h; cases h)
      · have hfit1 : ¬ (k : Int) + 6 ≤ (s.size : Int) := by omega
        have he : escB s k = false := HH2.out.trans (sty_out _ _ (by omega))
        go_wp2_with (first | (go_at_call 49; refine (has_none _).mono ?_; rintro e w' ⟨rfl, rfl⟩) | fail)
        exact hQ _ _ _ _ _ _ _ _ _ _ _ _ _ _ _ _ _ _ _ _ _ _ _ _ _ _ _ _ _ _ _ _ _ _ _ _ _ _ _ _ _ _ _ _ _ _ _ _ _ _ _ _ _ _ _ _ _ _ _ _ _ _ _ _ _ _ _ _ _ (fun h => by rw [he] at h; cases h) (fun _ => rfl)
    · have e60 : (y == 60) = false := by simpa using h60
      have he : escB s k = false := by rw [esc_47 HX.out, HK.out, hit_not (by rw [HY.out]; exact h60)]
      go_wp2_with (first | (go_at_call 49; refine (has_none _).mono ?_; rintro e w' ⟨rfl, rfl⟩) | fail)
      exact hQ _ _ _ _ _ _ _ _ _ _ _ _ _ _ _ _ _ _ _ _ _ _ _ _ _ _ _ _ _ _ _ _ _ _ _ _ _ _ _ _ _ _ _ _ _ _ _ _ _ _ _ _ _ _ _ _ _ _ _ _ _ _ _ _ _ _ _ _ _ (fun h => by rw [he] at h; cases h) (fun _ => rfl)
  have he : escB s k = false := esc_other (by rw [HX.out]; exact h92) (by rw [HX.out]; exact h34) (by rw [HX.out]; exact h47)
  have e0 : (x == 0) = false := by simp; omega
  have e13 : (x == 13) = false := by simp; omega
  have e10 : (x == 10) = false := by simp; omega
  have e12 : (x == 12) = false := by simp; omega
  have e9 : (x == 9) = false := by simp; omega
  have e92 : (x == 92) = false := by simpa using h92
  have e34 : (x == 34) = false := by simpa using h34
  have e47 : (x == 47) = false := by simpa using h47
  have e65 : (x == 65279) = false := by simp; omega
  have e128 : ¬ (128 : Int) ≤ x := by omega
  by_cases h40 : x = 40
  · subst h40
    go_wp2_with (first | (go_at_call 49; refine (has_none _).mono ?_; rintro e w' ⟨rfl, rfl⟩) | fail)
    exact hQ _ _ _ _ _ _ _ _ _ _ _ _ _ _ _ _ _ _ _ _ _ _ _ _ _ _ _ _ _ _ _ _ _ _ _ _ _ _ _ _ _ _ _ _ _ _ _ _ _ _ _ _ _ _ _ _ _ _ _ _ _ _ _ _ _ _ _ _ _ (fun h => by rw [he] at h; cases h) (fun _ => rfl)
  by_cases h41 : x = 41
  · subst h41
    go_wp2_with (first | (go_at_call 49; refine (has_none _).mono ?_; rintro e w' ⟨rfl, rfl⟩) | fail)
    exact hQ _ _ _ _ _ _ _ _ _ _ _ _ _ _ _ _ _ _ _ _ _ _ _ _ _ _ _ _ _ _ _ _ _ _ _ _ _ _ _ _ _ _ _ _ _ _ _ _ _ _ _ _ _ _ _ _ _ _ _ _ _ _ _ _ _ _ _ _ _ (fun h => by rw [he] at h; cases h) (fun _ => rfl)
  by_cases h32 : x = 32
  · subst h32
    go_wp2_with (first | (go_at_call 49; refine (has_none _).mono ?_; rintro e w' ⟨rfl, rfl⟩) | fail)
    exact hQ _ _ _ _ _ _ _ _ _ _ _ _ _ _ _ _ _ _ _ _ _ _ _ _ _ _ _ _ _ _ _ _ _ _ _ _ _ _ _ _ _ _ _ _ _ _ _ _ _ _ _ _ _ _ _ _ _ _ _ _ _ _ _ _ _ _ _ _ _ (fun h => by rw [he] at h; cases h) (fun _ => rfl)
  by_cases h39 : x = 39
  · subst h39
    go_wp2_with (first | (go_at_call 49; refine (has_none _).mono ?_; rintro e w' ⟨rfl, rfl⟩) | fail)
    exact hQ _ _ _ _ _ _ _ _ _ _ _ _ _ _ _ _ _ _ _ _ _ _ _ _ _ _ _ _ _ _ _ _ _ _ _ _ _ _ _ _ _ _ _ _ _ _ _ _ _ _ _ _ _ _ _ _ _ _ _ _ _ _ _ _ _ _ _ _ _ (fun h => by rw [he] at h; cases h) (fun _ => rfl)
  have e40 : (x == 40) = false := by simpa using h40
  have e41 : (x == 41) = false := by simpa using h41
  have e32 : (x == 32) = false := by simpa using h32
  have e39 : (x == 39) = false := by simpa using h39
  go_wp2_with (first | (go_at_call 49; refine (has_none _).mono ?_; rintro e w' ⟨rfl, rfl⟩) | fail)
  exact hQ _ _ _ _ _ _ _ _ _ _ _ _ _ _ _ _ _ _ _ _ _ _ _ _ _ _ _ _ _ _ _ _ _ _ _ _ _ _ _ _ _ _ _ _ _ _ _ _ _ _ _ _ _ _ _ _ _ _ _ _ _ _ _ _ _ _ _ _ _ (fun h => by rw [he] at h; cases h) (fun _ => rfl)

end Go.Proofs.YtiplakadjkimmabGreatFmt
