import Derived.Test.Qxb6603224aModsProg
import Derived.Test.Qxb6603224aModsPlain
import Derived.WalkKit
namespace Go.Proofs.Qxb6603224aMods
open Go.RowKit Plain
theorem ret2 {st c a : Int} {b : Bool} (h : num st c = (a, b)) : Ending.returned (.tuple #[.int .u8 a, .bool b]) = .returned (.tuple #[.int .u8 (num st c).1, .bool (num st c).2]) := by rw [h]
set_option maxHeartbeats 400000 in
theorem number10 (b : Nat) (c : Int) (w : World) (hc : w.cell? ⟨b, 1, none⟩ = some (.int .u8 10)) :
    Calls Trym.prog 14 #[.pointer (some ⟨b, 0, none⟩), .int .u8 c] w fun e w' => e = .returned (.tuple #[.int .u8 (num 10 c).1, .bool (num 10 c).2]) ∧ w' = w := by
  go_enter Trym.func14, Trym.ntmps14
  go_wp2
  all_goals go_ret2
  all_goals
    refine ⟨ret2 ?_, rfl⟩
    (try simp only [beq_iff_eq] at *)
    (try simp only [beq_eq_false_iff_ne, ne_eq] at *)
    first | (exfalso; omega) | rw [n10]
    all_goals repeat (first | rfl | rw [if_pos (by omega)] | rw [if_neg (by omega)])
set_option maxHeartbeats 400000 in
theorem number11 (b : Nat) (c : Int) (w : World) (hc : w.cell? ⟨b, 1, none⟩ = some (.int .u8 11)) :
    Calls Trym.prog 14 #[.pointer (some ⟨b, 0, none⟩), .int .u8 c] w fun e w' => e = .returned (.tuple #[.int .u8 (num 11 c).1, .bool (num 11 c).2]) ∧ w' = w := by
  go_enter Trym.func14, Trym.ntmps14
  go_wp2
  all_goals go_ret2
  all_goals
    refine ⟨ret2 ?_, rfl⟩
    (try simp only [beq_iff_eq] at *)
    (try simp only [beq_eq_false_iff_ne, ne_eq] at *)
    first | (exfalso; omega) | rw [n11]
    all_goals repeat (first | rfl | rw [if_pos (by omega)] | rw [if_neg (by omega)])
set_option maxHeartbeats 400000 in
theorem number12 (b : Nat) (c : Int) (w : World) (hc : w.cell? ⟨b, 1, none⟩ = some (.int .u8 12)) :
    Calls Trym.prog 14 #[.pointer (some ⟨b, 0, none⟩), .int .u8 c] w fun e w' => e = .returned (.tuple #[.int .u8 (num 12 c).1, .bool (num 12 c).2]) ∧ w' = w := by
  go_enter Trym.func14, Trym.ntmps14
  go_wp2
  all_goals go_ret2
  all_goals
    refine ⟨ret2 ?_, rfl⟩
    (try simp only [beq_iff_eq] at *)
    (try simp only [beq_eq_false_iff_ne, ne_eq] at *)
    first | (exfalso; omega) | rw [n12]
    all_goals repeat (first | rfl | rw [if_pos (by omega)] | rw [if_neg (by omega)])
set_option maxHeartbeats 400000 in
theorem number13 (b : Nat) (c : Int) (w : World) (hc : w.cell? ⟨b, 1, none⟩ = some (.int .u8 13)) :
    Calls Trym.prog 14 #[.pointer (some ⟨b, 0, none⟩), .int .u8 c] w fun e w' => e = .returned (.tuple #[.int .u8 (num 13 c).1, .bool (num 13 c).2]) ∧ w' = w := by
  go_enter Trym.func14, Trym.ntmps14
  go_wp2
  all_goals go_ret2
  all_goals
    refine ⟨ret2 ?_, rfl⟩
    (try simp only [beq_iff_eq] at *)
    (try simp only [beq_eq_false_iff_ne, ne_eq] at *)
    first | (exfalso; omega) | rw [n13]
    all_goals repeat (first | rfl | rw [if_pos (by omega)] | rw [if_neg (by omega)])
set_option maxHeartbeats 400000 in
theorem number14 (b : Nat) (c : Int) (w : World) (hc : w.cell? ⟨b, 1, none⟩ = some (.int .u8 14)) :
    Calls Trym.prog 14 #[.pointer (some ⟨b, 0, none⟩), .int .u8 c] w fun e w' => e = .returned (.tuple #[.int .u8 (num 14 c).1, .bool (num 14 c).2]) ∧ w' = w := by
  go_enter Trym.func14, Trym.ntmps14
  go_wp2
  all_goals go_ret2
  all_goals
    refine ⟨ret2 ?_, rfl⟩
    (try simp only [beq_iff_eq] at *)
    (try simp only [beq_eq_false_iff_ne, ne_eq] at *)
    first | (exfalso; omega) | rw [n14]
    all_goals repeat (first | rfl | rw [if_pos (by omega)] | rw [if_neg (by omega)])
set_option maxHeartbeats 400000 in
theorem number15 (b : Nat) (c : Int) (w : World) (hc : w.cell? ⟨b, 1, none⟩ = some (.int .u8 15)) :
    Calls Trym.prog 14 #[.pointer (some ⟨b, 0, none⟩), .int .u8 c] w fun e w' => e = .returned (.tuple #[.int .u8 (num 15 c).1, .bool (num 15 c).2]) ∧ w' = w := by
  go_enter Trym.func14, Trym.ntmps14
  go_wp2
  all_goals go_ret2
  all_goals
    refine ⟨ret2 ?_, rfl⟩
    (try simp only [beq_iff_eq] at *)
    (try simp only [beq_eq_false_iff_ne, ne_eq] at *)
    first | (exfalso; omega) | rw [n15]
    all_goals repeat (first | rfl | rw [if_pos (by omega)] | rw [if_neg (by omega)])
set_option maxHeartbeats 400000 in
theorem number16 (b : Nat) (c : Int) (w : World) (hc : w.cell? ⟨b, 1, none⟩ = some (.int .u8 16)) :
    Calls Trym.prog 14 #[.pointer (some ⟨b, 0, none⟩), .int .u8 c] w fun e w' => e = .returned (.tuple #[.int .u8 (num 16 c).1, .bool (num 16 c).2]) ∧ w' = w := by
  go_enter Trym.func14, Trym.ntmps14
  go_wp2
  all_goals go_ret2
  all_goals
    refine ⟨ret2 ?_, rfl⟩
    (try simp only [beq_iff_eq] at *)
    (try simp only [beq_eq_false_iff_ne, ne_eq] at *)
    first | (exfalso; omega) | rw [n16]
    all_goals repeat (first | rfl | rw [if_pos (by omega)] | rw [if_neg (by omega)])
set_option maxHeartbeats 400000 in
theorem number17 (b : Nat) (c : Int) (w : World) (hc : w.cell? ⟨b, 1, none⟩ = some (.int .u8 17)) :
    Calls Trym.prog 14 #[.pointer (some ⟨b, 0, none⟩), .int .u8 c] w fun e w' => e = .returned (.tuple #[.int .u8 (num 17 c).1, .bool (num 17 c).2]) ∧ w' = w := by
  go_enter Trym.func14, Trym.ntmps14
  go_wp2
  all_goals go_ret2
  all_goals
    refine ⟨ret2 ?_, rfl⟩
    (try simp only [beq_iff_eq] at *)
    (try simp only [beq_eq_false_iff_ne, ne_eq] at *)
    first | (exfalso; omega) | rw [n17]
    all_goals repeat (first | rfl | rw [if_pos (by omega)] | rw [if_neg (by omega)])
set_option maxHeartbeats 400000 in
theorem number_not (b : Nat) (st c : Int) (w : World) (h : ¬ (10 ≤ st ∧ st ≤ 17)) (hc : w.cell? ⟨b, 1, none⟩ = some (.int .u8 st)) :
    Calls Trym.prog 14 #[.pointer (some ⟨b, 0, none⟩), .int .u8 c] w fun e w' => e = .returned (.tuple #[.int .u8 (num st c).1, .bool (num st c).2]) ∧ w' = w := by
  have h0 : (st == 10) = false := by simp; omega
  have h1 : (st == 11) = false := by simp; omega
  have h2 : (st == 12) = false := by simp; omega
  have h3 : (st == 13) = false := by simp; omega
  have h4 : (st == 14) = false := by simp; omega
  have h5 : (st == 15) = false := by simp; omega
  have h6 : (st == 16) = false := by simp; omega
  have h7 : (st == 17) = false := by simp; omega
  go_enter Trym.func14, Trym.ntmps14
  go_wp2
  all_goals go_ret2
  all_goals
    refine ⟨ret2 ?_, rfl⟩
    exact nnot st c h
theorem number_any (b : Nat) (st c : Int) (w : World) (hc : w.cell? ⟨b, 1, none⟩ = some (.int .u8 st)) :
    Calls Trym.prog 14 #[.pointer (some ⟨b, 0, none⟩), .int .u8 c] w fun e w' => e = .returned (.tuple #[.int .u8 (num st c).1, .bool (num st c).2]) ∧ w' = w := by
  by_cases h : 10 ≤ st ∧ st ≤ 17
  · have h' : st = 10 ∨ st = 11 ∨ st = 12 ∨ st = 13 ∨ st = 14 ∨ st = 15 ∨ st = 16 ∨ st = 17 := by omega
    rcases h' with rfl | rfl | rfl | rfl | rfl | rfl | rfl | rfl
    · exact number10 b c w hc
    · exact number11 b c w hc
    · exact number12 b c w hc
    · exact number13 b c w hc
    · exact number14 b c w hc
    · exact number15 b c w hc
    · exact number16 b c w hc
    · exact number17 b c w hc
  · exact number_not b st c w h hc
end Go.Proofs.Qxb6603224aMods
