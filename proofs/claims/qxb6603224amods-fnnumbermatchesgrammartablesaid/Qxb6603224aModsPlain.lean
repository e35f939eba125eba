namespace Go.Proofs.Qxb6603224aMods.Plain
/-- the number scan's answer at a state and a byte -/
def num (st c : Int) : Int × Bool :=
  if st = 10 then (if c = 48 then (11, true) else if 48 ≤ c ∧ c ≤ 57 then (12, true) else (0, true))
  else if st = 11 ∨ st = 12 then (if (48 ≤ c ∧ c ≤ 57) ∧ st = 12 then (12, true) else if c = 46 then (13, true) else if c = 101 ∨ c = 69 then (15, true) else (0, false))
  else if st = 13 then (if 48 ≤ c ∧ c ≤ 57 then (14, true) else (0, true))
  else if st = 14 then (if 48 ≤ c ∧ c ≤ 57 then (14, true) else if c = 101 ∨ c = 69 then (15, true) else (0, false))
  else if st = 15 then (if c = 43 ∨ c = 45 then (16, true) else if 48 ≤ c ∧ c ≤ 57 then (17, true) else (0, true))
  else if st = 16 then (if 48 ≤ c ∧ c ≤ 57 then (17, true) else (0, true))
  else if st = 17 then (if 48 ≤ c ∧ c ≤ 57 then (17, true) else (0, false))
  else (0, true)
/-- the state behind the first byte -/
def fst1 (c : Int) : Int := if c = 45 then 10 else if c = 48 then 11 else if 48 ≤ c ∧ c ≤ 57 then 12 else 0
def stp (s c : Int) : Int := (num s c).1
/-- the state behind a whole text; 0: it begins no number -/
def dst (l : List Int) : Int := match l with
  | [] => 0
  | c :: cs => cs.foldl stp (fst1 c)
def cmp (st : Int) : Bool := decide (st = 11 ∨ st = 12 ∨ st = 14 ∨ st = 17)

def dg (c : Int) : Bool := decide (48 ≤ c ∧ c ≤ 57)
theorem stp_zero (c : Int) : stp 0 c = 0 := by simp [stp, num]
theorem fold_zero (l : List Int) : l.foldl stp 0 = 0 := by
  induction l with
  | nil => rfl
  | cons c cs ih => simp [List.foldl, stp_zero, ih]
theorem dst_snoc (l : List Int) (c : Int) (h : l ≠ []) : dst (l ++ [c]) = stp (dst l) c := by
  cases l with
  | nil => exact absurd rfl h
  | cons a as => simp [dst]
theorem dst_one (c : Int) : dst [c] = fst1 c := rfl
theorem dst_take (zs : List Int) (k : Nat) (h0 : 0 < k) (hk : k < zs.length) : dst (zs.take (k + 1)) = stp (dst (zs.take k)) (zs[k]?.getD 0) := by
  rw [List.take_succ_eq_append_getElem hk, dst_snoc _ _ (by intro h; have := congrArg List.length h; rw [List.length_take, List.length_nil] at this; omega)]
  simp [hk]
theorem dst_take1 (zs : List Int) (hk : 0 < zs.length) : dst (zs.take 1) = fst1 (zs[0]?.getD 0) := by
  cases zs with
  | nil => simp at hk
  | cons a as => simp [dst]
theorem dst_dead (zs : List Int) (k : Nat) (h0 : 0 < k) (h : dst (zs.take k) = 0) : dst zs = 0 := by
  cases zs with
  | nil => rfl
  | cons a as =>
    cases k with
    | zero => omega
    | succ k =>
      simp only [List.take_succ_cons, dst] at h ⊢
      rw [← List.take_append_drop k as, List.foldl_append, h]; exact fold_zero _
theorem stp_cases (s c : Int) : stp s c = 0 ∨ (10 ≤ stp s c ∧ stp s c ≤ 17) := by
  unfold stp num; repeat' split
  all_goals simp
theorem fst1_cases (c : Int) : fst1 c = 0 ∨ (10 ≤ fst1 c ∧ fst1 c ≤ 17) := by
  unfold fst1; repeat' split
  all_goals simp
theorem dst_cases (l : List Int) : dst l = 0 ∨ (10 ≤ dst l ∧ dst l ≤ 17) := by
  cases l with
  | nil => simp [dst]
  | cons a as =>
    simp only [dst]
    generalize hs : fst1 a = s
    have h := fst1_cases a; rw [hs] at h; clear hs
    induction as generalizing s with
    | nil => simpa using h
    | cons b bs ih => simp only [List.foldl_cons]; exact ih _ (stp_cases s b)
/-- the scan ends before a byte only where the number is whole, and then the longer text begins no number -/
theorem num_end (s c : Int) (h : (num s c).2 = false) : cmp s = true ∧ stp s c = 0 := by
  unfold cmp stp; revert h; unfold num
  repeat' split
  all_goals (first | (intro h; exact absurd h (by decide)) | (intro _; exact ⟨by simp; omega, rfl⟩))
/-- at a space a whole number ends, and all else is refused -/
theorem num_space (s : Int) : ((num s 32).2 = false ∧ cmp s = true) ∨ ((num s 32).2 = true ∧ (num s 32).1 = 0 ∧ cmp s = false) := by
  unfold num cmp
  repeat' split
  all_goals (first | omega | (simp; done) | (simp; omega))
theorem n10 (c : Int) : num 10 c = if c = 48 then (11, true) else if 48 ≤ c ∧ c ≤ 57 then (12, true) else (0, true) := by simp [num]
theorem n11 (c : Int) : num 11 c = if c = 46 then (13, true) else if c = 101 ∨ c = 69 then (15, true) else (0, false) := by simp [num]
theorem n12 (c : Int) : num 12 c = if 48 ≤ c ∧ c ≤ 57 then (12, true) else if c = 46 then (13, true) else if c = 101 ∨ c = 69 then (15, true) else (0, false) := by simp [num]
theorem n13 (c : Int) : num 13 c = if 48 ≤ c ∧ c ≤ 57 then (14, true) else (0, true) := by simp [num]
theorem n14 (c : Int) : num 14 c = if 48 ≤ c ∧ c ≤ 57 then (14, true) else if c = 101 ∨ c = 69 then (15, true) else (0, false) := by simp [num]
theorem n15 (c : Int) : num 15 c = if c = 43 ∨ c = 45 then (16, true) else if 48 ≤ c ∧ c ≤ 57 then (17, true) else (0, true) := by simp [num]
theorem n16 (c : Int) : num 16 c = if 48 ≤ c ∧ c ≤ 57 then (17, true) else (0, true) := by simp [num]
theorem n17 (c : Int) : num 17 c = if 48 ≤ c ∧ c ≤ 57 then (17, true) else (0, false) := by simp [num]
theorem nnot (st c : Int) (h : ¬ (10 ≤ st ∧ st ≤ 17)) : num st c = (0, true) := by
  unfold num; rw [if_neg (by omega), if_neg (by omega), if_neg (by omega), if_neg (by omega), if_neg (by omega), if_neg (by omega), if_neg (by omega)]
end Go.Proofs.Qxb6603224aMods.Plain
