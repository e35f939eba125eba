import Derived.Test.Qxb6603224aModsModel
import Derived.Deep.QuietTactic
import Derived.BigQuiet
namespace Go.Proofs.Qxb6603224aMods
open Go.RowKit Plain Go.Deep
theorem bytes5_yes (i st hex c : Int) (a : Option Addr) (len cap : Nat) (key : Bool) (lit : ByteArray) (w : World) (h : len + lit.size ≤ 1048576) :
    Calls Trym.prog 5 #[.int .i64 i, .int .u8 st, .slice a len cap, .bool key, .string lit, .int .i64 hex, .int .u8 c] w fun e w' => e = .returned (.bool true) ∧ w' = w := by
  go_enter Trym.func5, Trym.ntmps5
  go_wp2
  go_ret
  exact ⟨rfl, rfl⟩
theorem bytes5_no (i st hex c : Int) (a : Option Addr) (len cap : Nat) (key : Bool) (lit : ByteArray) (w : World) (h : ¬ len + lit.size ≤ 1048576) (h1 : len ≤ 9223372036854775807) (h2 : lit.size ≤ 9223372036854775807) :
    Calls Trym.prog 5 #[.int .i64 i, .int .u8 st, .slice a len cap, .bool key, .string lit, .int .i64 hex, .int .u8 c] w fun e w' => e = .returned (.bool false) ∧ w' = w := by
  go_enter Trym.func5, Trym.ntmps5
  go_wp2
  all_goals go_ret
  all_goals exact ⟨rfl, rfl⟩
set_option maxHeartbeats 400000 in
theorem same_some (b len cap : Nat) (f : Nat → Int) (w : World) (hl : len ≤ 1048576) (hf : Filled w b len f) :
    Calls Trym.prog 9 #[.slice (some ⟨b, 0, none⟩) len cap, .slice (some ⟨b, 0, none⟩) len cap] w fun e w' => e = .returned (.bool true) ∧ ∃ n, w' = w.drewN n := by
  have HF : Hid (Filled w b len f) := hf
  clear hf
  have hnil := fun w => Lib.run_eql_slice_nil (P := Trym.prog) w 22 5 (some ⟨b, 0, none⟩) len cap 0 0 Trym.underlying22
  go_enter Trym.func9, Trym.ntmps9
  go_wp2
  clear hnil
  go_loopw [5] (fun i wr => ∃ k n : Nat, k ≤ len ∧ i = .int .i64 k ∧ wr = w.drewN n) (fun i _ => len - (intOf i).toNat)
  case atStart => exact ⟨0, 0, Nat.zero_le _, rfl, rfl⟩
  case round =>
    obtain ⟨k, n, hk, rfl, rfl⟩ := hrel
    by_cases hlt : k < len
    · have hck := (HF.out k hlt).1
      have hki : (k : Int) < (len : Int) := by omega
      go_wp2
      go_quiet (fail)
      go_wp2
      go_roundw
      case rel => exact ⟨k + 1, n + nq, by omega, by go_num, by simp [World.drewN]⟩
      case measure => simp [intOf]; omega
    · go_wp2
      go_ret
      exact ⟨rfl, n, rfl⟩
theorem same_nil (w : World) :
    Calls Trym.prog 9 #[.slice none 0 0, .slice none 0 0] w fun e w' => e = .returned (.bool true) ∧ ∃ n, w' = w.drewN n := by
  have hnil := fun w => Lib.run_eql_slice_nil (P := Trym.prog) w 22 5 none 0 0 0 0 Trym.underlying22
  go_enter Trym.func9, Trym.ntmps9
  go_wp2
  clear hnil
  go_loop [5] (fun i => i = .int .i64 0) (fun _ => 0)
  case atStart => rfl
  case round =>
    subst hrel
    go_wp2
    go_ret
    exact ⟨rfl, 0, rfl⟩
/-- what the clone of the stack is: nil, or a row of its own at block B -/
def CRow (w : World) (B : Nat) (a : Option Addr) (len cap : Nat) : Prop := (a = none ∧ len = 0 ∧ cap = 0) ∨ (a = some ⟨B, 0, none⟩ ∧ cap = len ∧ B < w.heap.size ∧ ∃ f, Filled w B len f)
theorem CRow.later {w w' : World} {B : Nat} {a : Option Addr} {len cap : Nat} (h : CRow w B a len cap) (hb : Below w.heap.size w w') : CRow w' B a len cap := by
  rcases h with h | ⟨h1, h2, h3, f, h4⟩
  · exact .inl h
  · exact .inr ⟨h1, h2, by have := hb.size; omega, f, h4.later hb h3⟩
theorem same_row (B : Nat) (a : Option Addr) (len cap : Nat) (w : World) (hl : len ≤ 1048576) (h : CRow w B a len cap) :
    Calls Trym.prog 9 #[.slice a len cap, .slice a len cap] w fun e w' => e = .returned (.bool true) ∧ ∃ n, w' = w.drewN n := by
  rcases h with ⟨rfl, rfl, rfl⟩ | ⟨rfl, rfl, h3, f, h4⟩
  · exact same_nil w
  · exact same_some B cap cap f w hl h4
/-- what is told of the stack that came in -/
def SRow (w : World) (a : Option Addr) (len cap : Nat) : Prop := (a = none ∧ len = 0 ∧ cap = 0) ∨ (∃ x, a = some x ∧ len = 0) ∨ (∃ (b off : Nat) (zs : List Int), a = some ⟨b, off, none⟩ ∧ b < w.heap.size ∧ ∀ j, j < len → w.cell? ⟨b, off + j, none⟩ = some (.int .u8 (zs.getD j 0)))
theorem clone_row (a : Option Addr) (len cap : Nat) (w : World) (hl : len ≤ 1048576) (h : SRow w a len cap) :
    Calls Trym.prog 6 #[.slice a len cap] w fun e w' => ∃ a' cap', e = .returned (.slice a' len cap') ∧ CRow w' w.heap.size a' len cap' ∧ Below w.heap.size w w' := by
  rcases h with ⟨rfl, rfl, rfl⟩ | ⟨x, rfl, rfl⟩ | ⟨b, off, zs, rfl, hb, hc⟩
  · exact (clone_nil w).mono fun e w' ⟨h1, h2⟩ => ⟨none, 0, h1, .inl ⟨rfl, rfl, rfl⟩, by rw [h2]; exact Below.refl _ _⟩
  · exact (clone_empty x cap w).mono fun e w' ⟨h1, h2, h3⟩ => ⟨_, _, h1, .inr ⟨rfl, rfl, h3, fun _ => 0, fun j hj => absurd hj (Nat.not_lt_zero j)⟩, h2⟩
  · exact (clone_any b off len cap zs w hl hc (fun _ => hb)).mono fun e w' ⟨h1, h2, h3, h4⟩ => ⟨_, _, h1, .inr ⟨rfl, rfl, h3, _, h4⟩, h2⟩
set_option maxRecDepth 100000 in
set_option maxHeartbeats 1000000 in
theorem table_main (i st hex c : Int) (a : Option Addr) (len cap : Nat) (key : Bool) (lit : ByteArray) (w : World) (h1 : len ≤ 524288) (h2 : lit.size ≤ 524288) (hs : SRow w a len cap) :
    Calls Trym.prog 3 #[.int .i64 i, .int .u8 st, .slice a len cap, .bool key, .string lit, .int .i64 hex, .int .u8 c] w fun e w' => e = .returned (.bool true) ∧ Below w.heap.size w w' := by
  obtain ⟨n, ok, hn⟩ : ∃ n ok, num st c = (n, ok) := ⟨_, _, rfl⟩
  have hzz := fun a' cap' w => zz_any i st hex c a' len cap' key lit w
  have hmod := fun w => model_any st c w
  simp only [hn] at hzz hmod
  clear hn
  have hcl := clone_row a len cap w (by omega) hs
  clear hs
  have HH : Hid (Calls Trym.prog 6 #[.slice a len cap] w fun e w' => ∃ a' cap', e = .returned (.slice a' len cap') ∧ CRow w' w.heap.size a' len cap' ∧ Below w.heap.size w w') := hcl
  have HZ : Hid (∀ a' cap' w, Calls Trym.prog 7 #[.int .i64 i, .int .u8 st, .slice a' len cap', .bool key, .string lit, .int .i64 hex, .int .u8 c] w fun e w' =>
      e = .returned (.tuple #[.int .u8 n, .bool ok, .int .i64 i, .int .u8 st, .slice a' len cap', .bool key, .string lit, .int .i64 hex]) ∧ Below w.heap.size w w') := hzz
  have HM : Hid (∀ w, Calls Trym.prog 8 #[.int .u8 st, .int .u8 c] w fun e w' => e = .returned (.tuple #[.int .u8 n, .bool ok]) ∧ Below w.heap.size w w') := hmod
  clear hzz hmod hcl
  go_enter Trym.func3, Trym.ntmps3
  go_wp2_with (go_at_call 5; refine (bytes5_yes i st hex c a len cap key lit _ (by omega)).mono ?_; rintro e w1 ⟨rfl, hw⟩; subst w1)
  refine HH.out.mono ?_
  rintro e w1 ⟨a', cap', rfl, hc1, hb1⟩
  go_wp2_with fail
  refine (HZ.out a' cap' _).mono ?_
  rintro e w2 ⟨rfl, hb2⟩
  go_wp2_with fail
  refine (HM.out _).mono ?_
  rintro e w3 ⟨rfl, hb3⟩
  have HB : Hid (Below w.heap.size w w3) := (hb1.trans (hb2.mono hb1.size)).trans (hb3.mono (Nat.le_trans hb1.size hb2.size))
  have HC : Hid (CRow w3 w.heap.size a' len cap') := (hc1.later hb2).later hb3
  clear hb1 hb2 hb3 hc1 HH HZ HM
  go_wp2_with (go_at_call 9; refine (same_row w.heap.size a' len cap' _ (by omega) HC.out).mono ?_)
  rintro e w4 ⟨rfl, nq, hw⟩
  subst w4
  go_wp2
  go_ret
  exact ⟨rfl, below_drewN HB.out nq⟩
end Go.Proofs.Qxb6603224aMods
