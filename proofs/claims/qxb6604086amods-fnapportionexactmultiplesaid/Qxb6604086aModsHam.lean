namespace Go.Proofs.Qxb6604086aMods.Ham
/-- a share's part rounded down, and what was cut -/
def q (n T : Int) (X : List Int) (i : Nat) : Int := n * X.getD i 0 / T
def r (n T : Int) (X : List Int) (i : Nat) : Int := n * X.getD i 0 % T
def s4 (S : List Int) : Int := S.getD 0 0 + S.getD 1 0 + S.getD 2 0 + S.getD 3 0
structure Pre (n T : Int) (X : List Int) : Prop where
  len : X.length = 4
  pos : ∀ i, i < 4 → 0 ≤ X.getD i 0
  sum : T = s4 X
  hT : 0 < T
  hn : 0 ≤ n
theorem four {P : Nat → Prop} (h0 : P 0) (h1 : P 1) (h2 : P 2) (h3 : P 3) : ∀ i, i < 4 → P i := by
  intro i hi
  match i, hi with
  | 0, _ => exact h0
  | 1, _ => exact h1
  | 2, _ => exact h2
  | 3, _ => exact h3
theorem qr {n T : Int} {X : List Int} (h : Pre n T X) (i : Nat) (hi : i < 4) : T * q n T X i + r n T X i = n * X.getD i 0 ∧ 0 ≤ q n T X i ∧ 0 ≤ r n T X i ∧ r n T X i < T := by
  unfold q r
  have hp : 0 ≤ n * X.getD i 0 := Int.mul_nonneg h.hn (h.pos i hi)
  have hT := h.hT
  exact ⟨Int.mul_ediv_add_emod _ _, Int.ediv_nonneg hp (by omega), Int.emod_nonneg _ (by omega), Int.emod_lt_of_pos _ hT⟩
/-- how many are left over -/
def L (n T : Int) (X : List Int) : Int := n - (q n T X 0 + q n T X 1 + q n T X 2 + q n T X 3)
theorem left_eq {n T : Int} {X : List Int} (h : Pre n T X) : T * L n T X = r n T X 0 + r n T X 1 + r n T X 2 + r n T X 3 := by
  have h0 := (qr h 0 (by omega)).1
  have h1 := (qr h 1 (by omega)).1
  have h2 := (qr h 2 (by omega)).1
  have h3 := (qr h 3 (by omega)).1
  have hs : n * T = n * X.getD 0 0 + n * X.getD 1 0 + n * X.getD 2 0 + n * X.getD 3 0 := by
    rw [h.sum]; unfold s4; rw [Int.mul_add, Int.mul_add, Int.mul_add]
  unfold L
  rw [Int.mul_sub, Int.mul_add, Int.mul_add, Int.mul_add, Int.mul_comm T n]
  omega
theorem left_bd {n T : Int} {X : List Int} (h : Pre n T X) : 0 ≤ L n T X ∧ L n T X ≤ 3 := by
  have e := left_eq h
  obtain ⟨_, _, a0, b0⟩ := qr h 0 (by omega)
  obtain ⟨_, _, a1, b1⟩ := qr h 1 (by omega)
  obtain ⟨_, _, a2, b2⟩ := qr h 2 (by omega)
  obtain ⟨_, _, a3, b3⟩ := qr h 3 (by omega)
  have hT := h.hT
  constructor
  · by_cases hl : 0 ≤ L n T X
    · exact hl
    · have : T * L n T X ≤ T * (-1) := Int.mul_le_mul_of_nonneg_left (by omega) (by omega)
      omega
  · by_cases hl : L n T X ≤ 3
    · exact hl
    · have : T * 4 ≤ T * L n T X := Int.mul_le_mul_of_nonneg_left (by omega) (by omega)
      omega
/-- what stands when some shares have got their extra one: those whose cut reads -1 -/
structure Inv (n T : Int) (X S C : List Int) (l : Int) : Prop where
  lenS : S.length = 4
  lenC : C.length = 4
  each : ∀ i, i < 4 → (S.getD i 0 = q n T X i ∧ C.getD i 0 = r n T X i) ∨ (S.getD i 0 = q n T X i + 1 ∧ C.getD i 0 = -1)
  tot : s4 S + l = n
  nn : 0 ≤ l
  ord : ∀ i, i < 4 → ∀ j, j < 4 → C.getD i 0 = -1 → C.getD j 0 ≠ -1 → r n T X j < r n T X i ∨ (r n T X j = r n T X i ∧ i < j)
/-- the first of the greatest -/
def First (C : List Int) (k m : Nat) : Prop := m < 4 ∧ ∀ j, j < k → C.getD j 0 ≤ C.getD m 0 ∧ (j < m → C.getD j 0 < C.getD m 0)
theorem First.start (C : List Int) : First C 0 0 := ⟨by omega, fun j hj => by omega⟩
theorem First.keep {C : List Int} {k m : Nat} (h : First C k m) (hk : C.getD k 0 ≤ C.getD m 0) (hm : m ≤ k) : First C (k + 1) m :=
  ⟨h.1, fun j hj => by
    by_cases e : j = k
    · subst e; exact ⟨hk, fun h => by omega⟩
    · exact h.2 j (by omega)⟩
theorem First.take {C : List Int} {k m : Nat} (h : First C k m) (hk : C.getD m 0 < C.getD k 0) (hk4 : k < 4) : First C (k + 1) k :=
  ⟨hk4, fun j hj => by
    by_cases e : j = k
    · subst e; exact ⟨Int.le_refl _, fun h => by omega⟩
    · have := h.2 j (by omega)
      exact ⟨by omega, fun _ => by omega⟩⟩
theorem getD_set (S : List Int) (m i : Nat) (v : Int) (hm : m < S.length) : (S.set m v).getD i 0 = if i = m then v else S.getD i 0 := by
  rw [List.getD_eq_getElem?_getD, List.getElem?_set]
  by_cases e : i = m
  · subst e; simp [hm]
  · rw [if_neg (by omega), if_neg e, List.getD_eq_getElem?_getD]
theorem s4_set (S : List Int) (m : Nat) (v : Int) (hS : S.length = 4) (hm : m < 4) : s4 (S.set m v) = s4 S - S.getD m 0 + v := by
  unfold s4
  rw [getD_set _ _ _ _ (by omega), getD_set _ _ _ _ (by omega), getD_set _ _ _ _ (by omega), getD_set _ _ _ _ (by omega)]
  match m, hm with
  | 0, _ => simp only [if_true, if_false, Nat.reduceEqDiff]; omega
  | 1, _ => (first | (simp; done) | (simp; omega))
  | 2, _ => (first | (simp; done) | (simp; omega))
  | 3, _ => (first | (simp; done) | (simp; omega))
theorem Inv.fresh {n T : Int} {X S C : List Int} {l : Int} (h : Inv n T X S C l) (hp : Pre n T X) (hl : 0 < l) {m : Nat} (hm : First C 4 m) : S.getD m 0 = q n T X m ∧ C.getD m 0 = r n T X m ∧ 0 ≤ r n T X m := by
  have hr := qr hp m hm.1
  rcases h.each m hm.1 with h1 | h1
  · exact ⟨h1.1, h1.2, hr.2.2.1⟩
  · exfalso
    have all : ∀ j, j < 4 → S.getD j 0 = q n T X j + 1 := by
      intro j hj
      rcases h.each j hj with h2 | h2
      · have := (hm.2 j hj).1
        have := (qr hp j hj).2.2.1
        omega
      · exact h2.1
    have e0 := all 0 (by omega)
    have e1 := all 1 (by omega)
    have e2 := all 2 (by omega)
    have e3 := all 3 (by omega)
    have ht := h.tot
    have hL := (left_bd hp).2
    unfold s4 at ht
    unfold L at hL
    omega
theorem Inv.step {n T : Int} {X S C : List Int} {l : Int} (h : Inv n T X S C l) (hp : Pre n T X) (hl : 0 < l) {m : Nat} (hm : First C 4 m) : Inv n T X (S.set m (S.getD m 0 + 1)) (C.set m (-1)) (l - 1) := by
  obtain ⟨f1, f2, f3⟩ := h.fresh hp hl hm
  have hm4 := hm.1
  refine ⟨by simp [h.lenS], by simp [h.lenC], ?_, ?_, by omega, ?_⟩
  · intro i hi
    rw [getD_set _ _ _ _ (by rw [h.lenS]; exact hm4), getD_set _ _ _ _ (by rw [h.lenC]; exact hm4)]
    by_cases e : i = m
    · rw [if_pos e, if_pos e, e]; exact .inr ⟨by omega, rfl⟩
    · rw [if_neg e, if_neg e]; exact h.each i hi
  · rw [s4_set _ _ _ h.lenS hm4]; have := h.tot; omega
  · intro i hi j hj
    rw [getD_set _ _ _ _ (by rw [h.lenC]; exact hm4), getD_set _ _ _ _ (by rw [h.lenC]; exact hm4)]
    by_cases ej : j = m
    · rw [if_pos ej]; intro _ hc; exact absurd rfl hc
    · rw [if_neg ej]
      by_cases ei : i = m
      · rw [if_pos ei]
        intro _ hc
        have hf := hm.2 j hj
        rcases h.each j hj with h2 | h2
        · rw [ei]
          by_cases hlt : r n T X j < r n T X m
          · exact .inl hlt
          · refine .inr ⟨by omega, ?_⟩
            by_cases hjm : j < m
            · have := hf.2 hjm; omega
            · omega
        · exact absurd h2.2 hc
      · rw [if_neg ei]; exact h.ord i hi j hj
/-- what the answer is good for -/
structure Good (n T : Int) (X S : List Int) : Prop where
  len : S.length = 4
  each : ∀ i, i < 4 → S.getD i 0 = q n T X i ∨ S.getD i 0 = q n T X i + 1
  tot : s4 S = n
  ord : ∀ i, i < 4 → ∀ j, j < 4 → S.getD i 0 = q n T X i + 1 → S.getD j 0 = q n T X j → r n T X j < r n T X i ∨ (r n T X j = r n T X i ∧ i < j)
theorem Inv.done {n T : Int} {X S C : List Int} {l : Int} (h : Inv n T X S C l) (hp : Pre n T X) (hl : ¬ 0 < l) : Good n T X S := by
  refine ⟨h.lenS, fun i hi => ?_, by have := h.tot; have := h.nn; omega, fun i hi j hj h1 h2 => ?_⟩
  · rcases h.each i hi with h1 | h1
    · exact .inl h1.1
    · exact .inr h1.1
  · apply h.ord i hi j hj
    · rcases h.each i hi with h3 | h3
      · omega
      · exact h3.2
    · rcases h.each j hj with h3 | h3
      · have := (qr hp j hj).2.2.1; omega
      · omega
theorem Inv.bound {n T : Int} {X S C : List Int} {l : Int} (h : Inv n T X S C l) (hp : Pre n T X) (i : Nat) (hi : i < 4) : 0 ≤ S.getD i 0 ∧ S.getD i 0 + l ≤ n := by
  have all : ∀ j, j < 4 → 0 ≤ S.getD j 0 := fun j hj => by
    have := (qr hp j hj).2.1
    rcases h.each j hj with h1 | h1 <;> omega
  have e0 := all 0 (by omega)
  have e1 := all 1 (by omega)
  have e2 := all 2 (by omega)
  have e3 := all 3 (by omega)
  have ht := h.tot
  unfold s4 at ht
  refine ⟨all i hi, ?_⟩
  match i, hi with
  | 0, _ => omega
  | 1, _ => omega
  | 2, _ => omega
  | 3, _ => omega
end Go.Proofs.Qxb6604086aMods.Ham
