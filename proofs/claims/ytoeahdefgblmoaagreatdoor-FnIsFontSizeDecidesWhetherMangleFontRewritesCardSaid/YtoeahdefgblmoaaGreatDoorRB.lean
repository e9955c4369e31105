/-
  prefixIsLessThan on a decimal's digits.
-/
import Derived.Test.YtoeahdefgblmoaaGreatDoorRA
namespace Go.Proofs.YtoeahdefgblmoaaGreatDoor
open Go.RowKit Go.Deep Go.PlainAid Go.Maps Go.Sort

/-- The digits as a list. -/
def dl (G : Nat → Int) (nd : Nat) : List Nat := (List.range nd).map fun i => (G i - 48).toNat
theorem dl_len (G : Nat → Int) (nd : Nat) : (dl G nd).length = nd := by unfold dl; rw [List.length_map, List.length_range]
theorem dl_at (G : Nat → Int) (nd k : Nat) (h : k < (dl G nd).length) : (dl G nd)[k]'h = (G k - 48).toNat := by
  simp only [dl, List.getElem_map, List.getElem_range]
theorem dl_lt {G : Nat → Int} {nd : Nat} (h : Good G nd) : ∀ d ∈ dl G nd, d < 10 := by
  intro d hd
  obtain ⟨i, hi, rfl⟩ := List.mem_map.1 hd
  have := h.hi i (List.mem_range.1 hi)
  omega
/-- A text of digits. -/
def dtx (C : List Nat) : ByteArray := ⟨(C.map fun d => UInt8.ofNat (48 + d)).toArray⟩
theorem dtx_size (C : List Nat) : (dtx C).size = C.length := by
  show (C.map fun d => UInt8.ofNat (48 + d)).toArray.size = _
  rw [List.size_toArray, List.length_map]
theorem dtx_at (C : List Nat) (hC : ∀ d ∈ C, d < 10) (k : Nat) (h : k < C.length) : bt (dtx C) k = 48 + (C[k]'h : Nat) := by
  have hs : k < (dtx C).size := by rw [dtx_size]; exact h
  have hd := hC _ (List.getElem_mem h)
  unfold bt
  rw [dif_pos hs]
  have e : (dtx C)[k]'hs = UInt8.ofNat (48 + C[k]'h) := by
    have hh : k < ((C.map fun d => UInt8.ofNat (48 + d)).toArray).size := by simpa using h
    have : (dtx C)[k]'hs = ((C.map fun d => UInt8.ofNat (48 + d)).toArray)[k]'hh := rfl
    rw [this, List.getElem_toArray, List.getElem_map]
  rw [e, UInt8.toNat_ofNat', Nat.mod_eq_of_lt (by omega)]
  omega

theorem less_drop (D C : List Nat) (k : Nat) (h1 : k < D.length) (h2 : k < C.length) : Go.Dec.less (D.drop k) (C.drop k) = if D[k]'h1 = C[k]'h2 then Go.Dec.less (D.drop (k + 1)) (C.drop (k + 1)) else decide (D[k]'h1 < C[k]'h2) := by
  rw [List.drop_eq_getElem_cons h1, List.drop_eq_getElem_cons h2]
  rfl
theorem less_done (D C : List Nat) (k : Nat) (h2 : C.length ≤ k) : Go.Dec.less (D.drop k) (C.drop k) = false := by
  rw [List.drop_of_length_le h2]
  cases D.drop k <;> rfl
theorem less_out (D C : List Nat) (k : Nat) (h1 : D.length ≤ k) (h2 : k < C.length) : Go.Dec.less (D.drop k) (C.drop k) = true := by
  rw [List.drop_of_length_le h1, List.drop_eq_getElem_cons h2]
  rfl

set_option maxHeartbeats 1000000 in
theorem less_any (b : Nat) (G : Nat → Int) (nd : Nat) (dp : Int) (ng tr : Bool) (C : List Nat) (cap : Nat) (w : World) (hg : Good G nd) (hC : ∀ d ∈ C, d < 10) (hl : C.length ≤ 1000) (hd : DecAt w b G nd dp ng tr) :
    Calls Tryz.prog 104 #[.slice (some ⟨b, 0, none⟩) nd cap, .string (dtx C)] w fun e w' => e = .returned (.bool (Go.Dec.less (dl G nd) C)) ∧ Below w.heap.size w w' := by
  have H := Lib.hid hd
  have HG := Lib.hid hg
  have hle := hg.le
  have hsz := dtx_size C
  have HC := Lib.hid hC
  have hgt := get_bt (dtx C)
  clear hd hg hC
  go_enter Tryz.func104, Tryz.ntmps104
  go_wp2
  go_loopw [5] (fun i wr => ∃ k : Nat, k ≤ C.length ∧ i = .int .i64 k ∧ Hid (Go.Dec.less ((dl G nd).drop k) (C.drop k) = Go.Dec.less (dl G nd) C) ∧ Hid (Below w.heap.size w wr)) (fun i _ => C.length - (intOf i).toNat)
  case atStart => exact ⟨0, by omega, rfl, Lib.hid rfl, Lib.hid (Below.refl _ _)⟩
  case round =>
    obtain ⟨k, hk, rfl, hL, hB⟩ := hrel
    by_cases hlt : k < C.length
    · have hlt1 : (k : Int) < ((dtx C).size : Int) := by omega
      have hlt2 : k < (dtx C).size := by omega
      by_cases hn : k < nd
      · have c1 := cell_later hB.out (H.out.dig (i := k) (by omega))
        have hb := dtx_at C HC.out k hlt
        have lo := HG.out.lo k hn
        have hi := HG.out.hi k hn
        have hkd : k < (dl G nd).length := by rw [dl_len]; exact hn
        have hs := less_drop (dl G nd) C k hkd hlt
        rw [dl_at] at hs
        obtain ⟨c, hc⟩ : ∃ c, c = C[k]'hlt := ⟨_, rfl⟩
        rw [← hc] at hs hb
        have HS := Lib.hid hs
        clear hs hc
        by_cases he : G k = 48 + (c : Int)
        · have he2 : (G k != bt (dtx C) k) = false := by rw [hb, he]; simp
          go_wp2_with fail
          go_region
          go_wp2_with fail
          exact ⟨⟨k + 1, by omega, by go_num, Lib.hid (by rw [← hL.out, HS.out, if_pos (by omega)]), Lib.hid hB.out.drew⟩, by simp [intOf]; omega⟩
        · have he2 : (G k != bt (dtx C) k) = true := by rw [hb]; simpa using he
          have hv : decide (G k < 48 + (c : Int)) = Go.Dec.less (dl G nd) C := by
            rw [← hL.out, HS.out, if_neg (by omega)]
            exact decide_eq_decide.2 (by omega)
          have HV := Lib.hid hv
          clear hv
          go_wp2_with fail
          go_region
          go_wp2_with fail
          go_region
          go_wp2_with fail
          refine bodyPost_ret (v := .bool (decide (G k < 48 + (c : Int)))) (by simp [results, Tryz.results104, go_sem]) rfl ⟨by rw [HV.out], hB.out.drew.drew⟩
      · have hv := less_out (dl G nd) C k (by rw [dl_len]; omega) hlt
        have hn2 : (nd : Int) ≤ (k : Int) := by omega
        have HV := Lib.hid hv
        clear hv
        go_wp2
        go_ret
        exact ⟨by rw [← hL.out, HV.out]; rfl, hB.out⟩
    · have hv := less_done (dl G nd) C k (by omega)
      have hlt1 : ((dtx C).size : Int) ≤ (k : Int) := by omega
      have HV := Lib.hid hv
      clear hv
      go_wp2
      go_ret
      exact ⟨by rw [← hL.out, HV.out]; rfl, hB.out⟩
end Go.Proofs.YtoeahdefgblmoaaGreatDoor
