/-
  The plain law: the pretty block without its layout is the minified block.
-/
import Derived.Test.YtiplakadjkimmabGreatFmtK
namespace Go.Proofs.YtiplakadjkimmabGreatFmt
open Go.RowKit Go.Deep

/-- What b2StripLayout leaves; the flag: a newline came just before, spaces apart. -/
def st : Bool → List UInt8 → List UInt8
  | _, [] => []
  | a, c :: cs => if c = 10 then st true cs else if a = true ∧ c = 32 then st a cs else c :: st false cs

theorem st_nl (a : Bool) (l : List UInt8) : st a (10 :: l) = st true l := by simp [st]
theorem st_skip (l : List UInt8) : st true (32 :: l) = st true l := by
  rw [st]
  rw [if_neg (by decide), if_pos ⟨rfl, rfl⟩]
theorem st_at (a : Bool) (c : UInt8) (l : List UInt8) (h : c ≠ 10) (h2 : c ≠ 32) : st a (c :: l) = c :: st false l := by
  rw [st, if_neg h, if_neg (fun e => h2 e.2)]
theorem st_in (c : UInt8) (l : List UInt8) (h : c ≠ 10) : st false (c :: l) = c :: st false l := by
  rw [st, if_neg h, if_neg (fun e => by cases e.1)]
theorem st_spaces (n : Nat) (l : List UInt8) : st true (List.replicate n 32 ++ l) = st true l := by
  induction n with
  | zero => rfl
  | succ n ih => rw [List.replicate_succ, List.cons_append, st_skip, ih]
theorem st_plain (t l : List UInt8) (h : ∀ c ∈ t, c ≠ 10) : st false (t ++ l) = t ++ st false l := by
  induction t with
  | nil => rfl
  | cons c t ih =>
    rw [List.cons_append, st_in _ _ (h c List.mem_cons_self), ih (fun x hx => h x (List.mem_cons_of_mem _ hx))]
    rfl

/-- "@layer ". -/
def layB : List UInt8 := [64, 108, 97, 121, 101, 114, 32]

/-- One rule as it is printed. -/
def oneR (mn : Bool) (k : Nat) (t : ByteArray) : List UInt8 :=
  (if mn then [] else List.replicate (2 * k) 32) ++ (layB ++ (t.data.toList ++ (59 :: (if mn then [] else [10]))))

/-- The rules as they are printed. -/
def allR (mn : Bool) (k : Nat) (us : List ByteArray) : List UInt8 := us.flatMap (oneR mn k)

/-- The block as it is printed. -/
def blkR (mn : Bool) (k m : Nat) (us : List ByteArray) : List UInt8 :=
  (if mn then [123] else [123, 10]) ++ (allR mn k us ++ ((if mn then [] else List.replicate (2 * m) 32) ++ [125]))

theorem allR_snoc (mn : Bool) (k : Nat) (us : List ByteArray) (t : ByteArray) : allR mn k (us ++ [t]) = allR mn k us ++ oneR mn k t := by
  simp [allR]

theorem st_one (k : Nat) (t : ByteArray) (l : List UInt8) (h : ∀ c ∈ t.data.toList, c ≠ 10) : st true (oneR false k t ++ l) = oneR true k t ++ st true l := by
  show st true ((List.replicate (2 * k) 32 ++ (layB ++ (t.data.toList ++ [59, 10]))) ++ l) = ([] ++ (layB ++ (t.data.toList ++ [59]))) ++ st true l
  rw [List.append_assoc, st_spaces, List.nil_append]
  simp only [layB, List.cons_append, List.nil_append, List.append_assoc]
  rw [st_at _ _ _ (by decide) (by decide), st_in _ _ (by decide), st_in _ _ (by decide), st_in _ _ (by decide), st_in _ _ (by decide), st_in _ _ (by decide), st_in _ _ (by decide), st_plain _ _ h, st_in _ _ (by decide), st_nl]

theorem st_all (k : Nat) (us : List ByteArray) (l : List UInt8) (h : ∀ t ∈ us, ∀ c ∈ t.data.toList, c ≠ 10) : st true (allR false k us ++ l) = allR true k us ++ st true l := by
  induction us with
  | nil => rfl
  | cons t us ih =>
    show st true ((oneR false k t ++ allR false k us) ++ l) = (oneR true k t ++ allR true k us) ++ st true l
    rw [List.append_assoc, st_one _ _ _ (h t List.mem_cons_self), ih (fun x hx => h x (List.mem_cons_of_mem _ hx)), List.append_assoc]

/-- The law. -/
theorem st_blk (k m : Nat) (us : List ByteArray) (h : ∀ t ∈ us, ∀ c ∈ t.data.toList, c ≠ 10) : st false (blkR false k m us) = blkR true k m us := by
  show st false ([123, 10] ++ (allR false k us ++ (List.replicate (2 * m) 32 ++ [125]))) = [123] ++ (allR true k us ++ ([] ++ [125]))
  rw [List.cons_append, st_in _ _ (by decide), List.cons_append, st_nl, List.nil_append, st_all _ _ _ h, st_spaces]
  rfl

theorem oneR_len (mn : Bool) (k : Nat) (t : ByteArray) (hk : k ≤ 65537) (ht : t.size ≤ 1048576) : (oneR mn k t).length ≤ 2000000 := by
  have h := bs_len t
  cases mn
  · simp [oneR, layB, h]; omega
  · simp [oneR, layB, h]; omega

theorem allR_len (mn : Bool) (k : Nat) (us : List ByteArray) (hk : k ≤ 65537) (ht : ∀ t ∈ us, t.size ≤ 1048576) : (allR mn k us).length ≤ us.length * 2000000 := by
  induction us with
  | nil => exact Nat.zero_le _
  | cons t us ih =>
    show (oneR mn k t ++ allR mn k us).length ≤ _
    have h1 := oneR_len mn k t hk (ht t List.mem_cons_self)
    have h2 := ih (fun x hx => ht x (List.mem_cons_of_mem _ hx))
    rw [List.length_append, List.length_cons]
    omega
end Go.Proofs.YtiplakadjkimmabGreatFmt
