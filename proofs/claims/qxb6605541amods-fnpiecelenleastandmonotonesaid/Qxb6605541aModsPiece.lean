import Derived.Test.Qxb6605541aModsProg
import Derived.Test.Qxb6605541aModsPow
import Derived.WalkKit
import Derived.WalkLawsBesides
import Derived.Deep.DeepCutAuto
namespace Go.Proofs.Qxb6605541aMods
open Go.RowKit Plain
set_option maxHeartbeats 400000 in
theorem piece8 (s : Int) (w : World) (h0 : 0 ≤ s) (h1 : s ≤ 18442240474082181120) :
    Calls Trym.prog 8 #[.int .u64 s] w fun e w' => ∃ k N, e = .returned (.int .u64 N) ∧ N = 2 ^ k ∧ Least s k ∧ w' = w := by
  go_enter Trym.func8, Trym.ntmps8
  go_wp2
  go_loop [3] (fun t => ∃ N : Int, 16384 ≤ N ∧ N ≤ 4503599627370496 ∧ t = .int .u64 N ∧ Hid (∃ k : Nat, 14 ≤ k ∧ k ≤ 52 ∧ N = 2 ^ k ∧ (k = 14 ∨ 2048 * N < s))) (fun t => (4503599627370497 - intOf t).toNat)
  case atStart => exact ⟨16384, by omega, by omega, rfl, 14, by omega, by omega, by decide, .inl rfl⟩
  case round =>
    obtain ⟨N, hN1, hN2, rfl, HK⟩ := hrel
    by_cases hov : s + N ≤ 18446744073709551615
    · have hq0 : 0 ≤ (s + N - 1) / N := Int.ediv_nonneg (by omega) (by omega)
      have hq1 : (s + N - 1) / N ≤ 18446744073709551615 := by have := Int.ediv_le_self N (by omega : 0 ≤ s + N - 1); omega
      by_cases hc : 4096 * N < s
      · have ht : 4096 < (s + N - 1) / N := (test_iff s N (by omega)).2 hc
        have HN : Hid (N * 2 ≤ 4503599627370496 ∧ ∃ k : Nat, 14 ≤ k ∧ k ≤ 52 ∧ N * 2 = 2 ^ k ∧ (k = 14 ∨ 2048 * (N * 2) < s)) := by
          obtain ⟨k, k1, k2, hk, _⟩ := HK.out
          have hk51 : k ≤ 51 := by
            by_cases e : k ≤ 51
            · exact e
            · have : k = 52 := by omega
              rw [this, pow52] at hk
              omega
          have e : N * 2 = 2 ^ (k + 1) := by rw [pow_succ', ← hk]; omega
          exact ⟨by rw [e]; exact (pow_bd (k + 1) (by omega) (by omega)).2, k + 1, by omega, by omega, e, .inr (by omega)⟩
        go_wp2
        go_round
        case rel => exact ⟨N * 2, by omega, HN.out.1, rfl, HN.out.2⟩
        case measure => have := HN.out.1; simp [intOf]; omega
      · have ht : ¬ 4096 < (s + N - 1) / N := fun h => hc ((test_iff s N (by omega)).1 h)
        go_wp2
        go_ret
        obtain ⟨k, k1, k2, hk, h4⟩ := HK.out
        exact ⟨k, N, rfl, hk, ⟨k1, k2, by rw [← hk]; omega, by rw [← hk]; exact h4⟩, rfl⟩
    · obtain ⟨k, k1, k2, hk, h4⟩ := HK.out
      have hL : Hid (∃ k, N = 2 ^ k ∧ Least s k) := ⟨k, hk, k1, k2, by rw [← hk]; omega, by rw [← hk]; exact h4⟩
      obtain ⟨e1, e2⟩ : s = 18442240474082181120 ∧ N = 4503599627370496 := by omega
      subst e1 e2
      clear hov HK hk h4 k1 k2 h0 h1 hN1 hN2
      go_wp2
      go_ret
      obtain ⟨k, hk, hl⟩ := hL.out
      exact ⟨k, _, rfl, hk, hl, rfl⟩
theorem piece5 (s : Int) (w : World) (h0 : 0 ≤ s) (h1 : s ≤ 18442240474082181120) :
    Calls Trym.prog 5 #[.int .u64 s] w fun e w' => ∃ k N, e = .returned (.int .u64 N) ∧ N = 2 ^ k ∧ Least s k ∧ w' = w := by
  go_enter Trym.func5, Trym.ntmps5
  go_wp2_with fail
  refine (piece8 s _ h0 h1).mono ?_
  rintro e w1 ⟨k, N, rfl, hk, hl, hw⟩
  subst w1
  have HH : Hid (N = 2 ^ k ∧ Least s k) := ⟨hk, hl⟩
  clear hk hl
  go_wp2
  go_ret
  exact ⟨k, N, rfl, HH.out.1, HH.out.2, rfl⟩
theorem ceil9 (x d : Int) (w : World) (hx : 0 ≤ x) (hx1 : x ≤ 18446744073709551614) (hd : 1 ≤ d) :
    Calls Trym.prog 9 #[.int .u64 x, .int .u64 d] w fun e w' => e = .returned (.int .u64 (cd x d)) ∧ w' = w := by
  have hq0 := Int.ediv_nonneg hx (by omega : 0 ≤ d)
  have hq1 := Int.ediv_le_self d hx
  by_cases hz : x % d = 0
  · have hb : (x % d != 0) = false := by simpa using hz
    have HC : Hid (cd x d = x / d) := by show cd x d = x / d; unfold cd; rw [if_pos hz]
    clear hz
    go_enter Trym.func9, Trym.ntmps9
    go_wp2
    go_ret
    exact ⟨by rw [HC.out]; rfl, rfl⟩
  · have hb : (x % d != 0) = true := by simpa using hz
    have HC : Hid (cd x d = x / d + 1) := by show cd x d = x / d + 1; unfold cd; rw [if_neg hz]
    clear hz
    go_enter Trym.func9, Trym.ntmps9
    go_wp2
    go_ret
    exact ⟨by rw [HC.out]; rfl, rfl⟩
theorem low12 (s : Int) (h0 : 0 ≤ s) (h1 : s ≤ 18442240474082181120) : bits BinOp.and IntKind.u64 s 4095 = s % 4096 := by
  rw [u64_and s 4095 h0 (by omega) (by omega) (by omega)]
  have e : s.toNat &&& (4095 : Int).toNat = s.toNat % 4096 := Nat.and_two_pow_sub_one_eq_mod s.toNat 12
  rw [e]
  omega
/-- the model's own loop: the bit length of q - 1 -/
def InvM (q : Int) (j : Nat) (M : Int) : Prop := 2 ^ j * M ≤ q - 1 ∧ q - 1 < 2 ^ j * (M + 1) ∧ (j = 0 ∨ (2 : Int) ^ j ≤ 2 * (q - 1))
theorem InvM.start (q : Int) : InvM q 0 (q - 1) := ⟨by simp, by simp; omega, .inl rfl⟩
theorem wrap_pow (j : Nat) (h : j ≤ 52) : IntKind.u64.wrap (2 ^ j) = 2 ^ j := by
  have h1 := pow_pos j
  have h2 := pow_mono j 52 h
  rw [pow52] at h2
  simp [IntKind.wrap, IntKind.signed, IntKind.bits]
  omega
theorem pow53 : (2 : Int) ^ 53 = 9007199254740992 := by decide
theorem InvM.step {q M : Int} {j : Nat} (h : InvM q j M) (hM : 0 < M) (hq : q ≤ 4502500115742720) : InvM q (j + 1) (M / 2) ∧ j ≤ 52 := by
  obtain ⟨h1, h2, _⟩ := h
  have hp := pow_pos j
  have e1 : (2 : Int) ^ j * (2 * (M / 2)) ≤ 2 ^ j * M := Int.mul_le_mul_of_nonneg_left (by omega) (by omega)
  have e2 : (2 : Int) ^ j * (M + 1) ≤ 2 ^ j * (2 * (M / 2) + 2) := Int.mul_le_mul_of_nonneg_left (by omega) (by omega)
  have e3 : (2 : Int) ^ j * 1 ≤ 2 ^ j * M := Int.mul_le_mul_of_nonneg_left (by omega) (by omega)
  have e4 : (2 : Int) ^ (j + 1) * (M / 2) = 2 ^ j * (2 * (M / 2)) := by rw [pow_succ', Int.mul_comm 2 (2 ^ j), Int.mul_assoc]
  have e5 : (2 : Int) ^ (j + 1) * (M / 2 + 1) = 2 ^ j * (2 * (M / 2) + 2) := by rw [pow_succ', Int.mul_comm 2 (2 ^ j), Int.mul_assoc, Int.mul_add, Int.mul_one]
  rw [Int.mul_one] at e3
  refine ⟨⟨by rw [e4]; omega, by rw [e5]; omega, .inr (by rw [pow_succ']; omega)⟩, ?_⟩
  by_cases hj : j ≤ 52
  · exact hj
  · have := pow_mono 53 j (by omega)
    rw [pow53] at this
    omega
theorem InvM.done {q s : Int} {j : Nat} (h : InvM q j 0) (hq : 16384 < q) (hq2 : q ≤ 4502500115742720) (h1 : 4096 * q - 4096 < s) (h2 : s ≤ 4096 * q) : Least s j := by
  obtain ⟨_, h4, h5⟩ := h
  rw [Int.zero_add, Int.mul_one] at h4
  have hj14 : 14 < j := by
    by_cases e : 14 < j
    · exact e
    · have := pow_mono j 14 (by omega)
      rw [pow14] at this
      omega
  have h6 : (2 : Int) ^ j ≤ 2 * (q - 1) := h5.resolve_left (by omega)
  have hj52 : j ≤ 52 := by
    by_cases e : j ≤ 52
    · exact e
    · have := pow_mono 53 j (by omega)
      rw [pow53] at this
      omega
  exact ⟨by omega, hj52, by omega, .inr (by omega)⟩
set_option maxHeartbeats 400000 in
theorem model6 (s : Int) (w : World) (h0 : 0 ≤ s) (h1 : s ≤ 18442240474082181120) :
    Calls Trym.prog 6 #[.int .u64 s] w fun e w' => ∃ k N, e = .returned (.int .u64 N) ∧ N = 2 ^ k ∧ Least s k ∧ w' = w := by
  have hlow := low12 s h0 h1
  obtain ⟨t, ht⟩ : ∃ t, (bits BinOp.and IntKind.u64 s 4095 != 0) = t := ⟨_, rfl⟩
  have HT : Hid ((s % 4096 != 0) = t) := by rw [hlow] at ht; exact ht
  clear hlow
  go_enter Trym.func6, Trym.ntmps6
  go_upto_if 10 with fail
  go_cut [3] from 6 to 12 (fun u wx => wx = w ∧ ∃ q : Int, u = .int .u64 q ∧ 0 ≤ q ∧ q ≤ 4502500115742720 ∧ 4096 * q - 4096 < s ∧ s ≤ 4096 * q)
  case first =>
    cases t
    · have hz : s % 4096 = 0 := by simpa using HT.out
      have HZ : Hid (s % 4096 = 0) := hz
      clear hz HT
      go_wp2
      go_meet
      have := HZ.out
      exact ⟨rfl, _, rfl, by omega, by omega, by omega, by omega⟩
    · have hz : ¬ s % 4096 = 0 := by simpa using HT.out
      have HZ : Hid (¬ s % 4096 = 0) := hz
      clear hz HT
      go_wp2
      go_meet
      have := HZ.out
      exact ⟨rfl, _, rfl, by omega, by omega, by omega, by omega⟩
  case rest =>
  obtain ⟨hw, q, rfl, hq0, hq1, hq2, hq3⟩ := hcut
  subst hw
  clear ht HT
  by_cases hq : q ≤ 16384
  · go_wp2
    go_ret
    exact ⟨14, _, rfl, by decide, ⟨by omega, by omega, by rw [pow14]; omega, .inl rfl⟩, rfl⟩
  · go_wp2
    go_loop [4, 5] (fun m k => ∃ (j : Nat) (M : Int), 0 ≤ M ∧ M ≤ q - 1 ∧ j ≤ 53 ∧ m = .int .u64 M ∧ k = .int .u64 j ∧ Hid (InvM q j M)) (fun m _ => (intOf m).toNat)
    case atStart => exact ⟨0, q - 1, by omega, by omega, by omega, rfl, rfl, InvM.start q⟩
    case round =>
      obtain ⟨j, M, hM0, hM1, hj, rfl, rfl, HI⟩ := hrel
      by_cases hM : 0 < M
      · have HS : Hid (InvM q (j + 1) (M / 2) ∧ j ≤ 52) := HI.out.step hM hq1
        have hj2 := HS.out.2
        go_wp2
        go_round
        case rel => exact ⟨j + 1, M / 2, by omega, by omega, by omega, rfl, by go_num, HS.out.1⟩
        case measure => simp [intOf]; omega
      · obtain rfl : M = 0 := by omega
        clear hM
        have HL : Hid (Least s j) := HI.out.done (by omega) hq1 hq2 hq3
        go_wp2
        go_ret
        exact ⟨j, _, rfl, wrap_pow j HL.out.2.1, HL.out, rfl⟩
theorem and_pow (k : Nat) (h : k ≤ 52) : bits BinOp.and IntKind.u64 (2 ^ k) (2 ^ k - 1) = 0 := by
  have h1 := pow_pos k
  have h2 := pow_mono k 52 h
  rw [pow52] at h2
  rw [u64_and (2 ^ k) (2 ^ k - 1) (by omega) (by omega) (by omega) (by omega)]
  have e1 : ((2 : Int) ^ k).toNat = 2 ^ k := by
    have : (2 : Int) ^ k = ((2 ^ k : Nat) : Int) := by simp
    rw [this]; exact Int.toNat_natCast _
  have e2 : ((2 : Int) ^ k - 1).toNat = 2 ^ k - 1 := by omega
  rw [e1, e2, Nat.and_two_pow_sub_one_eq_mod, Nat.mod_self]
  rfl
theorem least7 (s N : Int) (k : Nat) (w : World) (h0 : 0 ≤ s) (h1 : s ≤ 18442240474082181120) (hk : Hid (N = 2 ^ k ∧ Least s k)) :
    Calls Trym.prog 7 #[.int .u64 s, .int .u64 N] w fun e w' => e = .returned (.bool true) ∧ w' = w := by
  obtain ⟨hN, hL⟩ := hk.out
  obtain ⟨k1, k2, k3, k4⟩ := hL
  have hbd := pow_bd k k1 k2
  rw [← hN] at hbd k3 k4
  have hand : (bits BinOp.and IntKind.u64 N (N - 1) != 0) = false := by rw [hN, and_pow k k2]; rfl
  have hc1 : ¬ 4096 < cd s N := by have := (cd_le s N 4096 (by omega)).2 k3; omega
  have hN1 := hbd.1
  have hN2 := hbd.2
  by_cases h14 : N = 16384
  · have e14 : (N == 16384) = true := by simpa using h14
    clear hN k4 hbd h14 hk
    go_enter Trym.func7, Trym.ntmps7
    go_wp2_with fail
    refine (ceil9 s N _ h0 (by omega) (by omega)).mono ?_
    rintro e w1 ⟨rfl, hw⟩
    subst w1
    go_wp2
    go_ret
    exact ⟨rfl, rfl⟩
  · have e14 : (N == 16384) = false := by simpa using h14
    have hk14 : ¬ k = 14 := by
      intro e
      rw [e, pow14] at hN
      exact h14 hN
    have hlt := k4.resolve_left hk14
    have heven : N = 2 * (N / 2) := by
      have : N = 2 * 2 ^ (k - 1) := by rw [hN, ← pow_succ', show k - 1 + 1 = k from by omega]
      omega
    have hc2 : 4096 < cd s (N / 2) := by
      have := cd_le s (N / 2) 4096 (by omega)
      by_cases h : cd s (N / 2) ≤ 4096
      · have := this.1 h; omega
      · omega
    clear hN k4 hbd h14 hk heven hk14
    go_enter Trym.func7, Trym.ntmps7
    go_wp2_with fail
    refine (ceil9 s N _ h0 (by omega) (by omega)).mono ?_
    rintro e w1 ⟨rfl, hw⟩
    subst w1
    go_wp2_with fail
    refine (ceil9 s (N / 2) _ h0 (by omega) (by omega)).mono ?_
    rintro e w1 ⟨rfl, hw⟩
    subst w1
    go_wp2
    go_ret
    exact ⟨rfl, rfl⟩
theorem exact3 (s : Int) (w : World) (h0 : 0 ≤ s) (hm : s ≤ 18446744073709551615) :
    Calls Trym.prog 3 #[.int .u64 s] w fun e w' => e = .returned (.bool true) ∧ Grown w w' := by
  by_cases h1 : s ≤ 18442240474082181120
  · go_enter Trym.func3, Trym.ntmps3
    go_wp2_with fail
    refine (piece5 s _ h0 h1).mono ?_
    rintro e w1 ⟨k, N, rfl, hk, hl, hw⟩
    subst w1
    have HH : Hid (N = 2 ^ k ∧ Least s k) := ⟨hk, hl⟩
    clear hk hl
    go_wp2_with fail
    refine (model6 s _ h0 h1).mono ?_
    rintro e w1 ⟨k', N', rfl, hk, hl, hw⟩
    subst w1
    obtain rfl : N' = N := by rw [hk, HH.out.1, least_uniq hl HH.out.2]
    clear HH hk hl
    go_wp2
    go_ret
    exact ⟨rfl, Grown.refl _⟩
  · go_enter Trym.func3, Trym.ntmps3
    go_wp2
    go_ret
    exact ⟨rfl, Grown.refl _⟩
theorem mono4 (a b : Int) (w : World) (a0 : 0 ≤ a) (am : a ≤ 18446744073709551615) (b0 : 0 ≤ b) (bm : b ≤ 18446744073709551615) :
    Calls Trym.prog 4 #[.int .u64 a, .int .u64 b] w fun e w' => e = .returned (.bool true) ∧ Grown w w' := by
  by_cases h1 : a ≤ 18442240474082181120
  · by_cases h2 : b ≤ 18442240474082181120
    · go_enter Trym.func4, Trym.ntmps4
      go_wp2_with fail
      refine (piece5 a _ a0 h1).mono ?_
      rintro e w1 ⟨k, N, rfl, hk, hl, hw⟩
      subst w1
      have HH : Hid (N = 2 ^ k ∧ Least a k) := ⟨hk, hl⟩
      clear hk hl
      go_wp2_with fail
      refine (piece5 b _ b0 h2).mono ?_
      rintro e w1 ⟨k', N', rfl, hk, hl, hw⟩
      subst w1
      have HH' : Hid (N' = 2 ^ k' ∧ Least b k') := ⟨hk, hl⟩
      clear hk hl
      go_wp2_with fail
      refine (least7 a N k _ a0 h1 HH).mono ?_
      rintro e w1 ⟨rfl, hw⟩
      subst w1
      go_wp2_with fail
      refine (least7 b N' k' _ b0 h2 HH').mono ?_
      rintro e w1 ⟨rfl, hw⟩
      subst w1
      by_cases hab : b < a
      · go_wp2
        go_ret
        exact ⟨rfl, Grown.refl _⟩
      · have hle : N ≤ N' := by
          rw [HH.out.1, HH'.out.1]
          exact pow_mono k k' (least_mono HH.out.2 HH'.out.2 (by omega))
        go_wp2
        go_ret
        exact ⟨rfl, Grown.refl _⟩
    · go_enter Trym.func4, Trym.ntmps4
      go_wp2
      go_ret
      exact ⟨rfl, Grown.refl _⟩
  · go_enter Trym.func4, Trym.ntmps4
    go_wp2
    go_ret
    exact ⟨rfl, Grown.refl _⟩
end Go.Proofs.Qxb6605541aMods
