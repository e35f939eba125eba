namespace Go.Proofs.Qxb6605541aMods.Plain
/-- n is the least power of two from 2^14 on that cuts the size into 4096 pieces or fewer -/
def Least (s : Int) (k : Nat) : Prop := 14 ≤ k ∧ k ≤ 52 ∧ s ≤ 4096 * 2 ^ k ∧ (k = 14 ∨ 2048 * 2 ^ k < s)
theorem pow_pos (k : Nat) : (0 : Int) < 2 ^ k := Int.pow_pos (by omega)
theorem pow_succ' (k : Nat) : (2 : Int) ^ (k + 1) = 2 * 2 ^ k := by rw [Int.pow_succ]; omega
theorem pow_mono (j k : Nat) (h : j ≤ k) : (2 : Int) ^ j ≤ 2 ^ k := by
  obtain ⟨d, rfl⟩ : ∃ d, k = j + d := ⟨k - j, by omega⟩
  clear h
  induction d with
  | zero => simp
  | succ d ih => rw [← Nat.add_assoc, pow_succ']; have := pow_pos (j + d); omega
theorem least_mono {a b : Int} {j k : Nat} (ha : Least a j) (hb : Least b k) (h : a ≤ b) : j ≤ k := by
  obtain ⟨h1, h2, h3, h4⟩ := ha
  obtain ⟨g1, g2, g3, g4⟩ := hb
  by_cases hk : j ≤ k
  · exact hk
  · have hm := pow_mono (k + 1) j (by omega)
    rw [pow_succ'] at hm
    have : (j : Nat) ≠ 14 := by omega
    rcases h4 with h4 | h4
    · omega
    · omega
theorem least_uniq {a : Int} {j k : Nat} (ha : Least a j) (hb : Least a k) : j = k :=
  Nat.le_antisymm (least_mono ha hb (Int.le_refl _)) (least_mono hb ha (Int.le_refl _))
theorem pow14 : (2 : Int) ^ 14 = 16384 := by decide
theorem pow52 : (2 : Int) ^ 52 = 4503599627370496 := by decide
theorem pow_bd (k : Nat) (h1 : 14 ≤ k) (h2 : k ≤ 52) : 16384 ≤ (2 : Int) ^ k ∧ (2 : Int) ^ k ≤ 4503599627370496 := by
  have a := pow_mono 14 k h1
  have b := pow_mono k 52 h2
  rw [pow14] at a
  rw [pow52] at b
  exact ⟨a, b⟩
/-- x over d, rounded up -/
def cd (x d : Int) : Int := if x % d = 0 then x / d else x / d + 1
theorem cd_le (x d K : Int) (hd : 0 < d) : cd x d ≤ K ↔ x ≤ K * d := by
  unfold cd
  have e := Int.mul_ediv_add_emod x d
  have h0 := Int.emod_nonneg x (by omega : d ≠ 0)
  have h1 := Int.emod_lt_of_pos x hd
  split
  · rename_i hz
    rw [hz, Int.add_zero] at e
    constructor
    · intro h
      rw [← e, Int.mul_comm]
      exact Int.mul_le_mul_of_nonneg_right h (by omega)
    · intro h
      rw [← e, Int.mul_comm] at h
      exact Int.le_of_mul_le_mul_right h hd
  · rename_i hz
    constructor
    · intro h
      have h2 : (x / d + 1) * d ≤ K * d := Int.mul_le_mul_of_nonneg_right h (by omega)
      rw [Int.add_mul, Int.one_mul, Int.mul_comm] at h2
      omega
    · intro h
      have h2 : x / d * d < K * d := by rw [Int.mul_comm]; omega
      have := Int.lt_of_mul_lt_mul_right h2 (by omega)
      omega
theorem cd_nn (x d : Int) (hx : 0 ≤ x) (hd : 0 < d) : 0 ≤ cd x d ∧ cd x d ≤ x + 1 := by
  unfold cd
  have h0 := Int.ediv_nonneg hx (by omega : 0 ≤ d)
  have h1 := Int.ediv_le_self d hx
  split <;> omega
/-- the loop's own test -/
theorem test_iff (s N : Int) (hN : 0 < N) : 4096 < (s + N - 1) / N ↔ 4096 * N < s := by
  rw [Int.lt_iff_add_one_le, Int.le_ediv_iff_mul_le hN]
  constructor
  · intro h; rw [Int.add_mul, Int.one_mul] at h; omega
  · intro h; rw [Int.add_mul, Int.one_mul]; omega
theorem least_of {s : Int} {k : Nat} (h1 : 14 ≤ k) (h2 : k ≤ 52) (h3 : ¬ 4096 * 2 ^ k < s) (h4 : k = 14 ∨ 2048 * 2 ^ k < s) : Least s k := ⟨h1, h2, by omega, h4⟩
end Go.Proofs.Qxb6605541aMods.Plain
