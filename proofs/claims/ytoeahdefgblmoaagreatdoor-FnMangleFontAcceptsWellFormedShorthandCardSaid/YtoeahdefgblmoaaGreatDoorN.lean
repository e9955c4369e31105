/-
  The law's lists: the words, the families; rows filled side by side (plain).
-/
import Derived.Test.YtoeahdefgblmoaaGreatDoorK
namespace Go.Proofs.YtoeahdefgblmoaaGreatDoor
open Go.RowKit Go.Deep Go.PlainAid Go.Maps Go.Sort

def preL (zs ws : List Int) (k : Nat) : List (Nat × Int) := (List.range k).map fun i => ((zs.getD i 0).toNat % 15, wsAt ws i)
theorem preL_succ (zs ws : List Int) (k : Nat) : preL zs ws (k + 1) = preL zs ws k ++ [((zs.getD k 0).toNat % 15, wsAt ws k)] := by
  unfold preL
  rw [List.range_succ, List.map_append]
  rfl
theorem preL_len (zs ws : List Int) (k : Nat) : (preL zs ws k).length = k := by unfold preL; rw [List.length_map, List.length_range]
def inL (zs ws : List Int) (k : Nat) : List TK := (preL zs ws k).map inW
def outL (zs ws : List Int) (k : Nat) : List TK := (preL zs ws k).flatMap outW
theorem inL_succ (zs ws : List Int) (k : Nat) : inL zs ws (k + 1) = inL zs ws k ++ [inW ((zs.getD k 0).toNat % 15, wsAt ws k)] := by
  unfold inL
  rw [preL_succ, List.map_append]
  rfl
theorem outL_succ (zs ws : List Int) (k : Nat) : outL zs ws (k + 1) = outL zs ws k ++ outW ((zs.getD k 0).toNat % 15, wsAt ws k) := by
  unfold outL
  rw [preL_succ, List.flatMap_append]
  simp
theorem inL_len (zs ws : List Int) (k : Nat) : (inL zs ws k).length = k := by unfold inL; rw [List.length_map, preL_len]
theorem outL_len (zs ws : List Int) (k : Nat) : (outL zs ws k).length ≤ k := by
  have h := outP_len (preL zs ws k) k
  unfold outP at h
  rw [List.take_of_length_le (by rw [preL_len]; exact Nat.le_refl _)] at h
  exact h
theorem outP_all (zs ws : List Int) (k : Nat) : outP (preL zs ws k) (preL zs ws k).length = outL zs ws k := by
  unfold outP outL
  rw [List.take_length]
theorem inL_at (zs ws : List Int) (k i : Nat) (hi : i < (preL zs ws k).length) (r : List TK) : (inL zs ws k ++ r)[i]? = some (inW ((preL zs ws k)[i]'hi)) := by
  have hk : i < (inL zs ws k).length := by rw [inL_len]; rw [preL_len] at hi; exact hi
  rw [List.getElem?_append_left hk]
  unfold inL
  rw [List.getElem?_map, List.getElem?_eq_getElem hi]
  rfl

/-- The families. -/
def famI (w : Nat → Int) (fm : Nat → ByteArray) (b : Nat) : Nat → List TK
  | 0 => []
  | 1 => [⟨29, fm 0, w b⟩]
  | m + 2 => famI w fm b (m + 1) ++ [⟨10, ⟨#[44]⟩, w (b + 2 * m + 1)⟩, ⟨29, fm (m + 1), w (b + 2 * m + 2)⟩]

section
variable (w : Nat → Int) (fm : Nat → ByteArray) (b : Nat)
theorem famI_len : ∀ m, (famI w fm b (m + 1)).length = 2 * m + 1
  | 0 => rfl
  | m + 1 => by
    show (famI w fm b (m + 1) ++ _).length = _
    rw [List.length_append, famI_len m]
    show 2 * m + 1 + 2 = _
    omega
theorem setFam_append : ∀ (l r : List TK), l ≠ [] → setFam (l ++ r) = setFam l ++ r
  | [], _, h => absurd rfl h
  | _ :: _, _, _ => rfl
theorem setFam_len : ∀ l : List TK, (setFam l).length = l.length
  | [] => rfl
  | _ :: _ => rfl
theorem famI_ne (m : Nat) : famI w fm b (m + 1) ≠ [] := fun h => by
  have := famI_len w fm b m
  rw [h] at this
  exact absurd this (by simp)
theorem famI_at : ∀ m i, i < m + 1 → (famI w fm b (m + 1))[2 * i]? = some ⟨29, fm i, w (b + 2 * i)⟩ ∧ (i < m → (famI w fm b (m + 1))[2 * i + 1]? = some ⟨10, ⟨#[44]⟩, w (b + 2 * i + 1)⟩)
  | 0, i, h => by
    obtain rfl : i = 0 := by omega
    exact ⟨rfl, fun h => absurd h (Nat.lt_irrefl 0)⟩
  | m + 1, i, h => by
    have hl := famI_len w fm b m
    have e : famI w fm b (m + 2) = famI w fm b (m + 1) ++ [⟨10, ⟨#[44]⟩, w (b + 2 * m + 1)⟩, ⟨29, fm (m + 1), w (b + 2 * m + 2)⟩] := rfl
    rw [e]
    by_cases hi : i < m + 1
    · obtain ⟨h1, h2⟩ := famI_at m i hi
      rw [List.getElem?_append_left (by omega)]
      refine ⟨h1, fun _ => ?_⟩
      by_cases h3 : i < m
      · rw [List.getElem?_append_left (by omega)]
        exact h2 h3
      · obtain rfl : i = m := by omega
        rw [List.getElem?_append_right (by omega), hl, Nat.sub_self]
        rfl
    · obtain rfl : i = m + 1 := by omega
      rw [List.getElem?_append_right (by omega), hl, show 2 * (m + 1) - (2 * m + 1) = 1 by omega]
      exact ⟨rfl, fun h => absurd h (Nat.lt_irrefl _)⟩

theorem fams_of (Y : List TK) (m : Nat) (hm : 1 ≤ m) (hb : Y.length = b) (hs : ∀ i, i < m → (fm i).size ≤ 1000 ∧ GF.atKey (.string (fm i).data.toList) (.lit (.bool false)) = .lit (.bool true)) : Fams (Y ++ famI w fm b m) b m := by
  obtain ⟨m, rfl⟩ : ∃ k, m = k + 1 := ⟨m - 1, by omega⟩
  intro i hi
  obtain ⟨h1, h2⟩ := famI_at w fm b m i hi
  refine ⟨⟨fm i, w (b + 2 * i), ?_, hs i hi⟩, fun h => ⟨⟨#[44]⟩, w (b + 2 * i + 1), ?_⟩⟩
  · rw [List.getElem?_append_right (by omega), hb, show b + 2 * i - b = 2 * i by omega, h1]
  · rw [List.getElem?_append_right (by omega), hb, show b + 2 * i + 1 - b = 2 * i + 1 by omega, h2 (by omega)]
theorem fam_drop (Y : List TK) (m : Nat) (hm : 1 ≤ m) (hb : Y.length = b) : ((Y ++ famI w fm b m).drop b).take (2 * m - 1) = famI w fm b m := by
  obtain ⟨m, rfl⟩ : ∃ k, m = k + 1 := ⟨m - 1, by omega⟩
  rw [← hb, List.drop_left, List.take_of_length_le (by rw [famI_len]; omega)]
end

theorem fw_known (c : Nat) (h : c < 4) : (fwT c).size ≤ 1000 ∧ GF.atKey (.string (fwT c).data.toList) (.lit (.bool false)) = .lit (.bool true) :=
  match c, h with
  | 0, _ => ⟨by decide, by kernel_rfl⟩
  | 1, _ => ⟨by decide, by kernel_rfl⟩
  | 2, _ => ⟨by decide, by kernel_rfl⟩
  | 3, _ => ⟨by decide, by kernel_rfl⟩

/-- A size of the law's: how it reads. -/
def szL : Nat → ByteArray
  | 0 => ⟨#[49, 50, 112, 120]⟩
  | 1 => ⟨#[49, 46, 53, 101, 109]⟩
  | 2 => ⟨#[56, 48, 37]⟩
  | 3 => ⟨#[109, 101, 100, 105, 117, 109]⟩
  | 4 => ⟨#[120, 45, 108, 97, 114, 103, 101]⟩
  | _ => ⟨#[115, 109, 97, 108, 108, 101, 114]⟩
theorem size_known (c : Nat) (h : c < 6) : Low (swT c).2 (szL c) ∧ isSz (swT c).1 (szL c) = true ∧ noAngle (szL c) :=
  match c, h with
  | 0, _ => ⟨⟨by decide, by decide, by kernel_rfl⟩, by kernel_rfl, by kernel_rfl, by kernel_rfl, by kernel_rfl, by kernel_rfl⟩
  | 1, _ => ⟨⟨by decide, by decide, by kernel_rfl⟩, by kernel_rfl, by kernel_rfl, by kernel_rfl, by kernel_rfl, by kernel_rfl⟩
  | 2, _ => ⟨⟨by decide, by decide, by kernel_rfl⟩, by kernel_rfl, by kernel_rfl, by kernel_rfl, by kernel_rfl, by kernel_rfl⟩
  | 3, _ => ⟨⟨by decide, by decide, by kernel_rfl⟩, by kernel_rfl, by kernel_rfl, by kernel_rfl, by kernel_rfl, by kernel_rfl⟩
  | 4, _ => ⟨⟨by decide, by decide, by kernel_rfl⟩, by kernel_rfl, by kernel_rfl, by kernel_rfl, by kernel_rfl, by kernel_rfl⟩
  | 5, _ => ⟨⟨by decide, by decide, by kernel_rfl⟩, by kernel_rfl, by kernel_rfl, by kernel_rfl, by kernel_rfl, by kernel_rfl⟩

/-- One row is appended to; the other stands. -/
theorem push {wc W V W' : World} {T T2 cap : Nat} {l2 : List TK} {o : Obj} (h2 : RowAt W T2 cap l2) (hT : T2 ≠ T) (hb : Below wc.heap.size wc W) (hTc : wc.heap.size ≤ T) (vb : Below W.heap.size W V) (g : (V.alloc o).grownBy W' (some T)) :
    RowAt W' T2 cap l2 ∧ Below wc.heap.size wc W' := by
  have hz := vb.size
  have hz0 := hb.size
  have hl := h2.lt
  refine ⟨h2.keep ?_, ?_⟩
  · rw [g.block T2 (by rw [World.size_alloc]; omega) (fun e => hT (Option.some.inj e)), heap_alloc_old V o (by omega), vb.block T2 hl]
  · exact ((hb.trans (vb.mono hz0)).alloc (by omega) o).grown g (by rw [World.size_alloc]; omega) (fun k hk => by cases hk; exact hTc)

theorem and_two : ∀ x : Int, 0 ≤ x → x ≤ 255 → bits .andNot .u8 x 2 = bits .and .u8 x 253 ∧ bits .andNot .u8 x 1 = bits .and .u8 x 254 := fun x h0 h1 => by
  have h := (by decide +kernel : ∀ x : Fin 256, bits .andNot .u8 (x.val : Int) 2 = bits .and .u8 (x.val : Int) 253 ∧ bits .andNot .u8 (x.val : Int) 1 = bits .and .u8 (x.val : Int) 254) ⟨x.toNat, by omega⟩
  rw [show ((⟨x.toNat, by omega⟩ : Fin 256).val : Int) = x by show ((x.toNat : Nat) : Int) = x; omega] at h
  exact h

theorem make_row0 (n : Nat) (hn : n ≤ 100000) (w : World) : (Instr.makeSlice 32 (.int .i64 0) (.int .i64 (n : Int))).run Tryz.prog w = .ok (.slice (some ⟨w.heap.size, 0, none⟩) 0 n) (w.alloc (.cells (madeCells #[.pointer none, .string ⟨#[]⟩, .int .i32 0, .int .u32 0, .int .u16 0, .int .u8 0, .int .u8 0] (n * 7)) 31)) := by
  obtain ⟨i, hi, hzz⟩ := Option.map_eq_some_iff.1 info31
  simp only [Prod.mk.injEq] at hzz
  obtain ⟨hz, hs, hb⟩ := hzz
  have hbb : (i.bytes : Int) * (n : Int) ≤ 281474976710656 := by rw [hb]; omega
  have hr := run_make (P := Tryz.prog) w 32 31 i (.agg #[.pointer none, .string ⟨#[]⟩, .int .i32 0, .int .u32 0, .int .u16 0, .int .u8 0, .int .u8 0]) Tryz.underlying32 hi hz .i64 .i64 0 n (by omega) (by omega) hbb (by omega)
  rw [hs, Int.toNat_natCast] at hr
  exact hr
theorem row0 (w : World) (n : Nat) : RowAt (w.alloc (.cells (madeCells #[.pointer none, .string ⟨#[]⟩, .int .i32 0, .int .u32 0, .int .u16 0, .int .u8 0, .int .u8 0] (n * 7)) 31)) w.heap.size n [] :=
  ⟨_, (show (w.heap.push _)[w.heap.size]? = some _ from Array.getElem?_push_size), size_madeCells _ _, rfl, Nat.zero_le _⟩
end Go.Proofs.YtoeahdefgblmoaaGreatDoor
