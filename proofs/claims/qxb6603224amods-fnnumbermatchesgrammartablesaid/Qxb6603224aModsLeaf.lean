import Derived.Test.Qxb6603224aModsProg
import Derived.Test.Qxb6603224aModsPlain
import Derived.WalkKit
namespace Go.Proofs.Qxb6603224aMods
open Go.RowKit Plain
theorem isDigit_any (c : Int) (w : World) :
    Calls Trym.prog 11 #[.int .u8 c] w fun e w' => e = .returned (.bool (dg c)) ∧ w' = w := by
  by_cases h1 : 48 ≤ c
  · by_cases h2 : c ≤ 57
    · have hd : dg c = true := by simp [dg, h1, h2]
      rw [hd]
      go_enter Trym.func11, Trym.ntmps11
      go_wp2
      go_ret
      exact ⟨rfl, rfl⟩
    · have hd : dg c = false := by simp [dg, h2]
      rw [hd]
      go_enter Trym.func11, Trym.ntmps11
      go_wp2
      go_ret
      exact ⟨rfl, rfl⟩
  · have hd : dg c = false := by simp [dg, h1]
    rw [hd]
    go_enter Trym.func11, Trym.ntmps11
    go_wp2
    go_ret
    exact ⟨rfl, rfl⟩
theorem complete_any (c : Int) (w : World) :
    Calls Trym.prog 13 #[.int .u8 c] w fun e w' => e = .returned (.bool (cmp c)) ∧ w' = w := by
  by_cases h : c = 11 ∨ c = 12 ∨ c = 14 ∨ c = 17
  · have hd : cmp c = true := by simp [cmp, h]
    rw [hd]
    rcases h with rfl | rfl | rfl | rfl
    all_goals
      go_enter Trym.func13, Trym.ntmps13
      go_wp2
      go_ret
      exact ⟨rfl, rfl⟩
  · have hd : cmp c = false := by simp [cmp, h]
    rw [hd]
    have h1 : (c == 11) = false := by simp; omega
    have h2 : (c == 12) = false := by simp; omega
    have h3 : (c == 14) = false := by simp; omega
    have h4 : (c == 17) = false := by simp; omega
    go_enter Trym.func13, Trym.ntmps13
    go_wp2
    go_ret
    exact ⟨rfl, rfl⟩
theorem bytes4_any (a : Option Addr) (len cap : Nat) (w : World) (hl : len ≤ 9223372036854775807) :
    Calls Trym.prog 10 #[.slice a len cap] w fun e w' => e = .returned (.bool (decide (len ≤ 1048576))) ∧ w' = w := by
  by_cases h : len ≤ 1048576
  · have hd : decide (len ≤ 1048576) = true := by simpa using h
    rw [hd]; clear hd
    go_enter Trym.func10, Trym.ntmps10
    go_wp2
    go_ret
    exact ⟨rfl, rfl⟩
  · have hd : decide (len ≤ 1048576) = false := by simpa using h
    rw [hd]; clear hd
    go_enter Trym.func10, Trym.ntmps10
    go_wp2
    go_ret
    exact ⟨rfl, rfl⟩
end Go.Proofs.Qxb6603224aMods
