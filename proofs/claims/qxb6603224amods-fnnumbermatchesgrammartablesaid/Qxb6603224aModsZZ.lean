import Derived.Test.Qxb6603224aModsNumber
import Derived.Deep.QuietTactic
import Derived.BigQuiet
import Derived.WalkSmall
namespace Go.Proofs.Qxb6603224aMods
open Go.RowKit Plain
set_option maxHeartbeats 400000 in
theorem zz_any (i st hex c : Int) (sa : Option Addr) (sl sc : Nat) (key : Bool) (lit : ByteArray) (w : World) :
    Calls Trym.prog 7 #[.int .i64 i, .int .u8 st, .slice sa sl sc, .bool key, .string lit, .int .i64 hex, .int .u8 c] w fun e w' =>
      e = .returned (.tuple #[.int .u8 (num st c).1, .bool (num st c).2, .int .i64 i, .int .u8 st, .slice sa sl sc, .bool key, .string lit, .int .i64 hex]) ∧ Below w.heap.size w w' := by
  go_enter Trym.func7, Trym.ntmps7
  go_wp2_with (go_at_call 14; refine (number_any _ st _ _ ?_).mono ?_)
  · simp
  rintro e w' ⟨rfl, rfl⟩
  go_wp2
  go_quiet (fail)
  go_wp2
  refine bodyPost_ret (v := .tuple #[.int .u8 (num st c).1, .bool (num st c).2, .int .i64 i, .int .u8 st, .slice sa sl sc, .bool key, .string lit, .int .i64 hex]) (by simp [results, Trym.results7, go_sem]) rfl ⟨rfl, ?_⟩
  exact below_drewN ((Below.refl _ _).alloc (Nat.le_refl _) _) nq
end Go.Proofs.Qxb6603224aMods
