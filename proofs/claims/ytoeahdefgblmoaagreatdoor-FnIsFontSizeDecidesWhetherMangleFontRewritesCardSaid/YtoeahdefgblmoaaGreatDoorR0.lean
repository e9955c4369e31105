/-
  The plain arithmetic of the decimal's left shift (no program in sight).
  Then: Plain arithmetic of the decimal's right shift: how often two divides, up to k times.
-/
import GoSem.Core.World
namespace Go.Dec

/-- The number that the digits spell. -/
def val : List Nat → Nat
  | [] => 0
  | d :: D => d * 10 ^ D.length + val D
theorem val_lt : ∀ D : List Nat, (∀ d ∈ D, d < 10) → val D < 10 ^ D.length
  | [], _ => Nat.one_pos
  | d :: D, h => by
    have h0 := h d (List.mem_cons_self ..)
    have ih := val_lt D fun x hx => h x (List.mem_cons_of_mem _ hx)
    show d * 10 ^ D.length + val D < 10 ^ (D.length + 1)
    rw [Nat.pow_succ]
    generalize 10 ^ D.length = p at ih
    have : d * p ≤ 9 * p := Nat.mul_le_mul_right _ (by omega)
    omega
theorem val_ge (d : Nat) (D : List Nat) : d * 10 ^ D.length ≤ val (d :: D) := Nat.le_add_right _ _

/-- As prefixIsLessThan compares. -/
def less : List Nat → List Nat → Bool
  | _, [] => false
  | [], _ :: _ => true
  | d :: D, c :: C => if d = c then less D C else decide (d < c)

theorem less_val : ∀ D C : List Nat, (∀ d ∈ D, d < 10) → (∀ d ∈ C, d < 10) → (∀ x ∈ C.getLast?, 0 < x) →
    (less D C = true → val D * 10 ^ C.length < val C * 10 ^ D.length) ∧ (less D C = false → val C * 10 ^ D.length ≤ val D * 10 ^ C.length)
  | D, [], _, _, _ => by
    constructor
    · intro h
      cases D <;> simp [less] at h
    · intro _
      show 0 * _ ≤ _
      omega
  | [], c :: C, _, hC, hl => by
    constructor
    · intro _
      show 0 * _ < val (c :: C) * 1
      have : ∀ (c : Nat) (C : List Nat), (∀ x ∈ (c :: C).getLast?, 0 < x) → 0 < val (c :: C) := by
        intro c C
        induction C generalizing c with
        | nil => intro h; have := h c rfl; show 0 < c * 1 + 0; omega
        | cons b C ih =>
          intro h
          have := ih b (by simpa [List.getLast?_cons_cons] using h)
          show 0 < c * _ + val (b :: C)
          omega
      have := this c C hl
      omega
    · intro h
      cases h
  | d :: D, c :: C, hD, hC, hl => by
    have hD' := fun x hx => hD x (List.mem_cons_of_mem _ hx)
    have hC' := fun x hx => hC x (List.mem_cons_of_mem _ hx)
    have vD := val_lt D hD'
    have vC := val_lt C hC'
    have eD : val (d :: D) = d * 10 ^ D.length + val D := rfl
    have eC : val (c :: C) = c * 10 ^ C.length + val C := rfl
    rw [eD, eC, List.length_cons, List.length_cons, Nat.pow_succ, Nat.pow_succ]
    by_cases h : d = c
    · subst h
      have e : less (d :: D) (d :: C) = less D C := if_pos rfl
      rw [e]
      have ih := less_val D C hD' hC' (by
        cases C with
        | nil => intro x hx; cases hx
        | cons b C => simpa [List.getLast?_cons_cons] using hl)
      generalize 10 ^ D.length = p at *
      generalize 10 ^ C.length = q at *
      have e1 : (d * p + val D) * (q * 10) = 10 * (d * p * q) + 10 * (val D * q) := by
        rw [Nat.add_mul, Nat.mul_comm q 10, Nat.mul_left_comm, Nat.mul_left_comm (val D)]
      have e2 : (d * q + val C) * (p * 10) = 10 * (d * p * q) + 10 * (val C * p) := by
        rw [Nat.add_mul, Nat.mul_comm p 10, Nat.mul_left_comm, Nat.mul_left_comm (val C), Nat.mul_right_comm]
      rw [e1, e2]
      exact ⟨fun h => by have := ih.1 h; omega, fun h => by have := ih.2 h; omega⟩
    · have e : less (d :: D) (c :: C) = decide (d < c) := if_neg h
      rw [e]
      generalize 10 ^ D.length = p at *
      generalize 10 ^ C.length = q at *
      have key : ∀ a b p q x y : Nat, a < b → x < p → y < q → (a * p + x) * (q * 10) < (b * q + y) * (p * 10) ∨ p * q = 0 := by
        intro a b p q x y hab hx hy
        left
        have h1 : a * p + x < (a + 1) * p := by rw [Nat.add_mul, Nat.one_mul]; omega
        have h2 : (a * p + x) * (q * 10) < (a + 1) * p * (q * 10) := Nat.mul_lt_mul_of_pos_right h1 (by omega)
        have h3 : (a + 1) * p * (q * 10) ≤ b * p * (q * 10) := Nat.mul_le_mul_right _ (Nat.mul_le_mul_right _ hab)
        have h4 : b * p * (q * 10) = b * q * (p * 10) := by
          rw [Nat.mul_assoc, Nat.mul_assoc, Nat.mul_left_comm p q 10]
        have h5 : b * q * (p * 10) ≤ (b * q + y) * (p * 10) := Nat.mul_le_mul_right _ (Nat.le_add_right _ _)
        omega
      have hp : 0 < p := by omega
      have hq : 0 < q := by omega
      have hpq : p * q ≠ 0 := Nat.ne_of_gt (Nat.mul_pos hp hq)
      constructor
      · intro hlt
        rcases key d c p q _ _ (of_decide_eq_true hlt) vD vC with h | h
        · exact h
        · exact absurd h hpq
      · intro hlt
        have hge : c < d := by have := of_decide_eq_false hlt; omega
        rcases key c d q p _ _ hge vC vD with h | h
        · exact Nat.le_of_lt h
        · exact absurd (by rw [Nat.mul_comm]; exact h) hpq

/-- A row of the table: the digits of 5^k, and how many new digits a shift by k brings. -/
structure Cheat (k delta : Nat) (C : List Nat) : Prop where
  five : val C = 5 ^ k
  dig : ∀ d ∈ C, d < 10
  last : ∀ x ∈ C.getLast?, 0 < x
  len : delta + C.length = k + 1
  one : 1 ≤ delta
  low : 10 ^ C.length ≤ 10 * 5 ^ k

def newD (delta : Nat) (D C : List Nat) : Nat := if less D C then delta - 1 else delta

theorem two_five (k : Nat) : 2 ^ k * 5 ^ k = 10 ^ k := by rw [← Nat.mul_pow]
theorem shift_lt {k delta : Nat} {C D : List Nat} (h : Cheat k delta C) (hD : ∀ d ∈ D, d < 10) : val D * 2 ^ k < 10 ^ (D.length + newD delta D C) := by
  have hl := less_val D C hD h.dig h.last
  have h5 : 0 < 5 ^ k := Nat.pow_pos (by decide)
  have he := two_five k
  have hlen := h.len
  have hone := h.one
  unfold newD
  cases hc : less D C with
  | true =>
    have hv := hl.1 hc
    rw [h.five] at hv
    rw [if_pos rfl]
    apply Nat.lt_of_mul_lt_mul_right (a := 5 ^ k)
    rw [Nat.mul_assoc, he, show k = C.length + (delta - 1) by omega, Nat.pow_add, ← Nat.mul_assoc, ← show k = C.length + (delta - 1) by omega]
    calc val D * 10 ^ C.length * 10 ^ (delta - 1) < 5 ^ k * 10 ^ D.length * 10 ^ (delta - 1) := Nat.mul_lt_mul_of_pos_right hv (Nat.pow_pos (by decide))
      _ = 10 ^ (D.length + (delta - 1)) * 5 ^ k := by rw [Nat.pow_add, Nat.mul_assoc, Nat.mul_comm]
  | false =>
    rw [if_neg (by decide)]
    have hv := val_lt D hD
    apply Nat.lt_of_mul_lt_mul_right (a := 10 * 5 ^ k)
    have hlow := h.low
    calc val D * 2 ^ k * (10 * 5 ^ k) = val D * (10 ^ k * 10) := by rw [← he, Nat.mul_assoc, Nat.mul_assoc, Nat.mul_comm 10 (5 ^ k)]
      _ = val D * 10 ^ (k + 1) := by rw [Nat.pow_succ]
      _ < 10 ^ D.length * 10 ^ (k + 1) := Nat.mul_lt_mul_of_pos_right hv (Nat.pow_pos (by decide))
      _ = 10 ^ (D.length + delta) * 10 ^ C.length := by rw [← Nat.pow_add, ← Nat.pow_add]; congr 1; omega
      _ ≤ 10 ^ (D.length + delta) * (10 * 5 ^ k) := Nat.mul_le_mul_left _ hlow

theorem shift_ge {k delta : Nat} {C : List Nat} (h : Cheat k delta C) (d : Nat) (D : List Nat) (hd : 1 ≤ d) (hD : ∀ x ∈ d :: D, x < 10) : 10 ^ (D.length + newD delta (d :: D) C) ≤ val (d :: D) * 2 ^ k := by
  have hl := less_val (d :: D) C hD h.dig h.last
  have h5 : 0 < 5 ^ k := Nat.pow_pos (by decide)
  have he := two_five k
  have hlen := h.len
  have hone := h.one
  have hn : 10 ^ D.length ≤ val (d :: D) := Nat.le_trans (by
    have := Nat.mul_le_mul_right (10 ^ D.length) hd
    rw [Nat.one_mul] at this
    exact this) (val_ge d D)
  unfold newD
  cases hc : less (d :: D) C with
  | true =>
    rw [if_pos rfl, Nat.pow_add]
    refine Nat.mul_le_mul hn ?_
    apply Nat.le_of_mul_le_mul_right (c := 5 ^ k) _ h5
    rw [he]
    have hv := val_lt C h.dig
    rw [h.five] at hv
    calc 10 ^ (delta - 1) * 5 ^ k ≤ 10 ^ (delta - 1) * 10 ^ C.length := Nat.mul_le_mul_left _ (Nat.le_of_lt hv)
      _ = 10 ^ k := by rw [← Nat.pow_add]; congr 1; omega
  | false =>
    rw [if_neg (by decide)]
    have hv := hl.2 hc
    rw [h.five, List.length_cons] at hv
    apply Nat.le_of_mul_le_mul_right (c := 5 ^ k) _ h5
    rw [Nat.mul_assoc, he]
    calc 10 ^ (D.length + delta) * 5 ^ k = 5 ^ k * 10 ^ (D.length + 1) * 10 ^ (delta - 1) := by
          rw [Nat.mul_assoc, ← Nat.pow_add, Nat.mul_comm]; congr 2; omega
      _ ≤ val (d :: D) * 10 ^ C.length * 10 ^ (delta - 1) := Nat.mul_le_mul_right _ hv
      _ = val (d :: D) * 10 ^ k := by rw [Nat.mul_assoc, ← Nat.pow_add]; congr 2; omega

/-- The left shift's loop over the digits, from the last: what is carried, and the digits put down. -/
def shl (k : Nat) : List Nat → Nat × List Nat
  | [] => (0, [])
  | d :: D => let x := shl k D; let n := x.1 + d * 2 ^ k; (n / 10, n % 10 :: x.2)
theorem shl_len (k : Nat) : ∀ D, (shl k D).2.length = D.length
  | [] => rfl
  | d :: D => by
    show ((shl k D).2.length + 1) = _
    rw [shl_len k D]; rfl
theorem shl_dig (k : Nat) : ∀ D, ∀ x ∈ (shl k D).2, x < 10
  | [], x, h => by cases h
  | d :: D, x, h => by
    rcases List.mem_cons.1 h with e | h
    · rw [e]; exact Nat.mod_lt _ (by decide)
    · exact shl_dig k D x h
theorem shl_val (k : Nat) : ∀ D, (shl k D).1 * 10 ^ D.length + val (shl k D).2 = val D * 2 ^ k
  | [] => by simp [shl, val]
  | d :: D => by
    have ih := shl_val k D
    have e : ∀ n p, n / 10 * (p * 10) + (n % 10 * p) = n * p := by
      intro n p
      have h := Nat.div_add_mod n 10
      calc n / 10 * (p * 10) + n % 10 * p = (10 * (n / 10) + n % 10) * p := by rw [Nat.add_mul, Nat.mul_comm p 10, ← Nat.mul_assoc, Nat.mul_comm (n / 10) 10]
        _ = n * p := by rw [h]
    show ((shl k D).1 + d * 2 ^ k) / 10 * 10 ^ (D.length + 1) + (((shl k D).1 + d * 2 ^ k) % 10 * 10 ^ (shl k D).2.length + val (shl k D).2) = (d * 10 ^ D.length + val D) * 2 ^ k
    rw [shl_len, Nat.pow_succ, ← Nat.add_assoc, e, Nat.add_mul, Nat.add_mul, Nat.add_assoc, Nat.add_comm (d * 2 ^ k * _), ← Nat.add_assoc, ih, Nat.add_comm, Nat.mul_right_comm]
theorem shl_lt (k : Nat) : ∀ D, (∀ d ∈ D, d < 10) → (shl k D).1 < 2 ^ k
  | [], _ => Nat.pow_pos (by decide)
  | d :: D, h => by
    have ih := shl_lt k D fun x hx => h x (List.mem_cons_of_mem _ hx)
    have h0 := h d (List.mem_cons_self ..)
    have : d * 2 ^ k ≤ 9 * 2 ^ k := Nat.mul_le_mul_right _ (by omega)
    show ((shl k D).1 + d * 2 ^ k) / 10 < 2 ^ k
    omega
/-- What is carried at the end has at most so many digits. -/
theorem shl_top {k delta : Nat} {C D : List Nat} (h : Cheat k delta C) (hD : ∀ d ∈ D, d < 10) : (shl k D).1 < 10 ^ newD delta D C := by
  have h1 := shl_val k D
  have h2 := shift_lt h hD
  rw [← h1, Nat.pow_add] at h2
  apply Nat.lt_of_mul_lt_mul_right (a := 10 ^ D.length)
  rw [Nat.mul_comm (10 ^ _)]
  omega

/-- The table: new digits, and the digits of 5^k. -/
def cheats : List (Nat × List Nat) := [(0, []),
  (1, [5]),
  (1, [2, 5]),
  (1, [1, 2, 5]),
  (2, [6, 2, 5]),
  (2, [3, 1, 2, 5]),
  (2, [1, 5, 6, 2, 5]),
  (3, [7, 8, 1, 2, 5]),
  (3, [3, 9, 0, 6, 2, 5]),
  (3, [1, 9, 5, 3, 1, 2, 5]),
  (4, [9, 7, 6, 5, 6, 2, 5]),
  (4, [4, 8, 8, 2, 8, 1, 2, 5]),
  (4, [2, 4, 4, 1, 4, 0, 6, 2, 5]),
  (4, [1, 2, 2, 0, 7, 0, 3, 1, 2, 5]),
  (5, [6, 1, 0, 3, 5, 1, 5, 6, 2, 5]),
  (5, [3, 0, 5, 1, 7, 5, 7, 8, 1, 2, 5]),
  (5, [1, 5, 2, 5, 8, 7, 8, 9, 0, 6, 2, 5]),
  (6, [7, 6, 2, 9, 3, 9, 4, 5, 3, 1, 2, 5]),
  (6, [3, 8, 1, 4, 6, 9, 7, 2, 6, 5, 6, 2, 5]),
  (6, [1, 9, 0, 7, 3, 4, 8, 6, 3, 2, 8, 1, 2, 5]),
  (7, [9, 5, 3, 6, 7, 4, 3, 1, 6, 4, 0, 6, 2, 5]),
  (7, [4, 7, 6, 8, 3, 7, 1, 5, 8, 2, 0, 3, 1, 2, 5]),
  (7, [2, 3, 8, 4, 1, 8, 5, 7, 9, 1, 0, 1, 5, 6, 2, 5]),
  (7, [1, 1, 9, 2, 0, 9, 2, 8, 9, 5, 5, 0, 7, 8, 1, 2, 5]),
  (8, [5, 9, 6, 0, 4, 6, 4, 4, 7, 7, 5, 3, 9, 0, 6, 2, 5]),
  (8, [2, 9, 8, 0, 2, 3, 2, 2, 3, 8, 7, 6, 9, 5, 3, 1, 2, 5]),
  (8, [1, 4, 9, 0, 1, 1, 6, 1, 1, 9, 3, 8, 4, 7, 6, 5, 6, 2, 5]),
  (9, [7, 4, 5, 0, 5, 8, 0, 5, 9, 6, 9, 2, 3, 8, 2, 8, 1, 2, 5]),
  (9, [3, 7, 2, 5, 2, 9, 0, 2, 9, 8, 4, 6, 1, 9, 1, 4, 0, 6, 2, 5]),
  (9, [1, 8, 6, 2, 6, 4, 5, 1, 4, 9, 2, 3, 0, 9, 5, 7, 0, 3, 1, 2, 5]),
  (10, [9, 3, 1, 3, 2, 2, 5, 7, 4, 6, 1, 5, 4, 7, 8, 5, 1, 5, 6, 2, 5]),
  (10, [4, 6, 5, 6, 6, 1, 2, 8, 7, 3, 0, 7, 7, 3, 9, 2, 5, 7, 8, 1, 2, 5]),
  (10, [2, 3, 2, 8, 3, 0, 6, 4, 3, 6, 5, 3, 8, 6, 9, 6, 2, 8, 9, 0, 6, 2, 5]),
  (10, [1, 1, 6, 4, 1, 5, 3, 2, 1, 8, 2, 6, 9, 3, 4, 8, 1, 4, 4, 5, 3, 1, 2, 5]),
  (11, [5, 8, 2, 0, 7, 6, 6, 0, 9, 1, 3, 4, 6, 7, 4, 0, 7, 2, 2, 6, 5, 6, 2, 5]),
  (11, [2, 9, 1, 0, 3, 8, 3, 0, 4, 5, 6, 7, 3, 3, 7, 0, 3, 6, 1, 3, 2, 8, 1, 2, 5]),
  (11, [1, 4, 5, 5, 1, 9, 1, 5, 2, 2, 8, 3, 6, 6, 8, 5, 1, 8, 0, 6, 6, 4, 0, 6, 2, 5]),
  (12, [7, 2, 7, 5, 9, 5, 7, 6, 1, 4, 1, 8, 3, 4, 2, 5, 9, 0, 3, 3, 2, 0, 3, 1, 2, 5]),
  (12, [3, 6, 3, 7, 9, 7, 8, 8, 0, 7, 0, 9, 1, 7, 1, 2, 9, 5, 1, 6, 6, 0, 1, 5, 6, 2, 5]),
  (12, [1, 8, 1, 8, 9, 8, 9, 4, 0, 3, 5, 4, 5, 8, 5, 6, 4, 7, 5, 8, 3, 0, 0, 7, 8, 1, 2, 5]),
  (13, [9, 0, 9, 4, 9, 4, 7, 0, 1, 7, 7, 2, 9, 2, 8, 2, 3, 7, 9, 1, 5, 0, 3, 9, 0, 6, 2, 5]),
  (13, [4, 5, 4, 7, 4, 7, 3, 5, 0, 8, 8, 6, 4, 6, 4, 1, 1, 8, 9, 5, 7, 5, 1, 9, 5, 3, 1, 2, 5]),
  (13, [2, 2, 7, 3, 7, 3, 6, 7, 5, 4, 4, 3, 2, 3, 2, 0, 5, 9, 4, 7, 8, 7, 5, 9, 7, 6, 5, 6, 2, 5]),
  (13, [1, 1, 3, 6, 8, 6, 8, 3, 7, 7, 2, 1, 6, 1, 6, 0, 2, 9, 7, 3, 9, 3, 7, 9, 8, 8, 2, 8, 1, 2, 5]),
  (14, [5, 6, 8, 4, 3, 4, 1, 8, 8, 6, 0, 8, 0, 8, 0, 1, 4, 8, 6, 9, 6, 8, 9, 9, 4, 1, 4, 0, 6, 2, 5]),
  (14, [2, 8, 4, 2, 1, 7, 0, 9, 4, 3, 0, 4, 0, 4, 0, 0, 7, 4, 3, 4, 8, 4, 4, 9, 7, 0, 7, 0, 3, 1, 2, 5]),
  (14, [1, 4, 2, 1, 0, 8, 5, 4, 7, 1, 5, 2, 0, 2, 0, 0, 3, 7, 1, 7, 4, 2, 2, 4, 8, 5, 3, 5, 1, 5, 6, 2, 5]),
  (15, [7, 1, 0, 5, 4, 2, 7, 3, 5, 7, 6, 0, 1, 0, 0, 1, 8, 5, 8, 7, 1, 1, 2, 4, 2, 6, 7, 5, 7, 8, 1, 2, 5]),
  (15, [3, 5, 5, 2, 7, 1, 3, 6, 7, 8, 8, 0, 0, 5, 0, 0, 9, 2, 9, 3, 5, 5, 6, 2, 1, 3, 3, 7, 8, 9, 0, 6, 2, 5]),
  (15, [1, 7, 7, 6, 3, 5, 6, 8, 3, 9, 4, 0, 0, 2, 5, 0, 4, 6, 4, 6, 7, 7, 8, 1, 0, 6, 6, 8, 9, 4, 5, 3, 1, 2, 5]),
  (16, [8, 8, 8, 1, 7, 8, 4, 1, 9, 7, 0, 0, 1, 2, 5, 2, 3, 2, 3, 3, 8, 9, 0, 5, 3, 3, 4, 4, 7, 2, 6, 5, 6, 2, 5]),
  (16, [4, 4, 4, 0, 8, 9, 2, 0, 9, 8, 5, 0, 0, 6, 2, 6, 1, 6, 1, 6, 9, 4, 5, 2, 6, 6, 7, 2, 3, 6, 3, 2, 8, 1, 2, 5]),
  (16, [2, 2, 2, 0, 4, 4, 6, 0, 4, 9, 2, 5, 0, 3, 1, 3, 0, 8, 0, 8, 4, 7, 2, 6, 3, 3, 3, 6, 1, 8, 1, 6, 4, 0, 6, 2, 5]),
  (16, [1, 1, 1, 0, 2, 2, 3, 0, 2, 4, 6, 2, 5, 1, 5, 6, 5, 4, 0, 4, 2, 3, 6, 3, 1, 6, 6, 8, 0, 9, 0, 8, 2, 0, 3, 1, 2, 5]),
  (17, [5, 5, 5, 1, 1, 1, 5, 1, 2, 3, 1, 2, 5, 7, 8, 2, 7, 0, 2, 1, 1, 8, 1, 5, 8, 3, 4, 0, 4, 5, 4, 1, 0, 1, 5, 6, 2, 5]),
  (17, [2, 7, 7, 5, 5, 5, 7, 5, 6, 1, 5, 6, 2, 8, 9, 1, 3, 5, 1, 0, 5, 9, 0, 7, 9, 1, 7, 0, 2, 2, 7, 0, 5, 0, 7, 8, 1, 2, 5]),
  (17, [1, 3, 8, 7, 7, 7, 8, 7, 8, 0, 7, 8, 1, 4, 4, 5, 6, 7, 5, 5, 2, 9, 5, 3, 9, 5, 8, 5, 1, 1, 3, 5, 2, 5, 3, 9, 0, 6, 2, 5]),
  (18, [6, 9, 3, 8, 8, 9, 3, 9, 0, 3, 9, 0, 7, 2, 2, 8, 3, 7, 7, 6, 4, 7, 6, 9, 7, 9, 2, 5, 5, 6, 7, 6, 2, 6, 9, 5, 3, 1, 2, 5]),
  (18, [3, 4, 6, 9, 4, 4, 6, 9, 5, 1, 9, 5, 3, 6, 1, 4, 1, 8, 8, 8, 2, 3, 8, 4, 8, 9, 6, 2, 7, 8, 3, 8, 1, 3, 4, 7, 6, 5, 6, 2, 5]),
  (18, [1, 7, 3, 4, 7, 2, 3, 4, 7, 5, 9, 7, 6, 8, 0, 7, 0, 9, 4, 4, 1, 1, 9, 2, 4, 4, 8, 1, 3, 9, 1, 9, 0, 6, 7, 3, 8, 2, 8, 1, 2, 5]),
  (19, [8, 6, 7, 3, 6, 1, 7, 3, 7, 9, 8, 8, 4, 0, 3, 5, 4, 7, 2, 0, 5, 9, 6, 2, 2, 4, 0, 6, 9, 5, 9, 5, 3, 3, 6, 9, 1, 4, 0, 6, 2, 5])]
def okRow (k : Nat) (x : Nat × List Nat) : Bool := val x.2 == 5 ^ k && x.2.all (· < 10) && (match x.2.getLast? with | some y => decide (0 < y) | none => true) && x.1 + x.2.length == k + 1 && decide (1 ≤ x.1) && decide (10 ^ x.2.length ≤ 10 * 5 ^ k)
theorem cheats_ok : (List.range 60).all (fun i => okRow (i + 1) (cheats.getD (i + 1) (0, []))) = true := by decide +kernel
theorem cheat_at (k : Nat) (h1 : 1 ≤ k) (h2 : k ≤ 60) : Cheat k (cheats.getD k (0, [])).1 (cheats.getD k (0, [])).2 := by
  have h := List.all_eq_true.1 cheats_ok (k - 1) (List.mem_range.2 (by omega))
  rw [show k - 1 + 1 = k by omega] at h
  unfold okRow at h
  simp only [Bool.and_eq_true, beq_iff_eq, decide_eq_true_eq, List.all_eq_true] at h
  obtain ⟨⟨⟨⟨⟨a, b⟩, c⟩, d⟩, e⟩, f⟩ := h
  refine ⟨a, b, fun x hx => ?_, d, e, f⟩
  rw [Option.mem_def] at hx
  rw [hx] at c
  exact of_decide_eq_true c

/-- No new digit: the first digit doubles at least. -/
theorem shl_head {k delta : Nat} {C : List Nat} (h : Cheat k delta C) (d : Nat) (D : List Nat) (hD : ∀ x ∈ d :: D, x < 10) (hk : 1 ≤ k) (h0 : newD delta (d :: D) C = 0) : ∃ e E, (shl k (d :: D)).2 = e :: E ∧ 2 * d ≤ e := by
  have ht := shl_top h hD
  rw [h0] at ht
  have hv := shl_val k (d :: D)
  have hz : (shl k (d :: D)).1 = 0 := by omega
  rw [hz, Nat.zero_mul, Nat.zero_add] at hv
  refine ⟨_, _, rfl, ?_⟩
  have hl := shl_len k D
  have hr := val_lt (shl k D).2 (shl_dig k D)
  rw [hl] at hr
  have hv' : ((shl k D).1 + d * 2 ^ k) % 10 * 10 ^ (shl k D).2.length + val (shl k D).2 = val (d :: D) * 2 ^ k := hv
  rw [hl] at hv'
  have hg := val_ge d D
  have h2 : 2 ≤ 2 ^ k := by
    have := Nat.pow_le_pow_right (n := 2) (by decide) hk
    rw [Nat.pow_one] at this
    exact this
  have h3 : 2 * d * 10 ^ D.length ≤ val (d :: D) * 2 ^ k := by
    rw [Nat.mul_assoc, Nat.mul_comm 2]
    exact Nat.mul_le_mul hg h2
  have h4 := Nat.not_lt.1 fun hlt : ((shl k D).1 + d * 2 ^ k) % 10 < 2 * d => by
    have h5 : (((shl k D).1 + d * 2 ^ k) % 10 + 1) * 10 ^ D.length ≤ 2 * d * 10 ^ D.length := Nat.mul_le_mul_right _ hlt
    rw [Nat.add_mul, Nat.one_mul] at h5
    omega
  exact h4
/-- New digits: the carried number has just so many. -/
theorem shl_top_ge {k delta : Nat} {C : List Nat} (h : Cheat k delta C) (d : Nat) (D : List Nat) (hd : 1 ≤ d) (hD : ∀ x ∈ d :: D, x < 10) (m : Nat) (h0 : newD delta (d :: D) C = m + 1) : 10 ^ m ≤ (shl k (d :: D)).1 := by
  have h1 := shift_ge h d D hd hD
  have hv := shl_val k (d :: D)
  have hr := val_lt (shl k (d :: D)).2 (shl_dig k (d :: D))
  rw [shl_len] at hr
  rw [h0, ← hv, show D.length + (m + 1) = m + (d :: D).length by rw [List.length_cons]; omega, Nat.pow_add] at h1
  have h4 := Nat.not_lt.1 fun hlt : (shl k (d :: D)).1 < 10 ^ m => by
    have h5 : ((shl k (d :: D)).1 + 1) * 10 ^ (d :: D).length ≤ 10 ^ m * 10 ^ (d :: D).length := Nat.mul_le_mul_right _ hlt
    rw [Nat.add_mul, Nat.one_mul] at h5
    omega
  exact h4
end Go.Dec

namespace Go.Dec

def v2 : Nat → Nat → Nat
  | 0, _ => 0
  | k + 1, n => if n % 2 = 0 then v2 k (n / 2) + 1 else 0
theorem v2_le : ∀ k n, v2 k n ≤ k
  | 0, _ => Nat.le_refl _
  | k + 1, n => by
    unfold v2
    split
    · exact Nat.succ_le_succ (v2_le k _)
    · exact Nat.zero_le _
theorem v2_dvd : ∀ k n, 2 ^ v2 k n ∣ n
  | 0, n => ⟨n, by simp [v2]⟩
  | k + 1, n => by
    unfold v2
    split
    · rename_i h
      obtain ⟨c, hc⟩ := v2_dvd k (n / 2)
      refine ⟨c, ?_⟩
      rw [Nat.pow_succ, Nat.mul_right_comm, ← hc]
      omega
    · exact ⟨n, by simp⟩
theorem le_v2 : ∀ k n i, i ≤ k → 2 ^ i ∣ n → i ≤ v2 k n
  | 0, _, i, h, _ => by omega
  | k + 1, n, 0, _, _ => Nat.zero_le _
  | k + 1, n, i + 1, h, ⟨c, hc⟩ => by
    have he : n % 2 = 0 := by
      rw [hc, Nat.pow_succ, Nat.mul_right_comm]
      exact Nat.mul_mod_left _ _
    unfold v2
    rw [if_pos he]
    refine Nat.succ_le_succ (le_v2 k _ i (by omega) ⟨c, ?_⟩)
    rw [hc, Nat.pow_succ, Nat.mul_right_comm, Nat.mul_div_cancel _ (by decide)]

/-- What is left of the extra digits. -/
def left (k n : Nat) : Nat := if n = 0 then 0 else k + 1 - v2 k n
theorem left_fall (k n : Nat) (h : n ≠ 0) : left k (n % 2 ^ k * 10) < left k n := by
  have h1 := v2_le k n
  unfold left
  rw [if_neg h]
  by_cases h0 : n % 2 ^ k * 10 = 0
  · rw [if_pos h0]; omega
  · rw [if_neg h0]
    have hd := v2_dvd k n
    have hlt : v2 k n < k := by
      apply Nat.lt_of_le_of_ne h1
      intro e
      rw [e] at hd
      have := Nat.mod_eq_zero_of_dvd hd
      omega
    have hd2 : 2 ^ v2 k n ∣ n % 2 ^ k := by
      have : 2 ^ v2 k n ∣ 2 ^ k := Nat.pow_dvd_pow 2 h1
      exact (Nat.dvd_mod_iff this).2 hd
    have hd3 : 2 ^ (v2 k n + 1) ∣ n % 2 ^ k * 10 := by
      obtain ⟨c, hc⟩ := hd2
      refine ⟨c * 5, ?_⟩
      rw [hc, Nat.pow_succ]
      calc 2 ^ v2 k n * c * 10 = 2 ^ v2 k n * c * (2 * 5) := rfl
        _ = _ := by rw [Nat.mul_assoc, Nat.mul_assoc, Nat.mul_left_comm c]
    have := le_v2 k _ _ (by omega) hd3
    omega
end Go.Dec
