import Derived.Test.Qxb6603224aModsProg
import Derived.Test.Qxb6603224aModsPlain
import Derived.WalkKit
import Derived.WalkSpells
import Derived.Deep.OwnRows
namespace Go.Proofs.Qxb6603224aMods
open Go.RowKit Plain Go.Deep
theorem info5 : (Trym.prog.info? 5).map (fun i => (i.zero, i.size, i.bytes)) = some (some (.int .u8 0), 1, 1) := by kernel_rfl
/-- a block's first cells hold these bytes, and may be written -/
def Filled (w : World) (B len : Nat) (f : Nat → Int) : Prop := ∀ j, j < len → w.cell? ⟨B, j, none⟩ = some (.int .u8 (f j)) ∧ w.frozen? ⟨B, j, none⟩ = false
theorem Filled.set {w : World} {B len : Nat} {f : Nat → Int} (h : Filled w B len f) (k : Nat) (hk : k < len) (v : Int) (g : Nat → Int) (hg : ∀ j, j < len → g j = if j = k then v else f j) : Filled (w.setCell ⟨B, k, none⟩ (.int .u8 v)) B len g := by
  intro j hj
  rw [World.frozen?_setCell, hg j hj]
  refine ⟨?_, (h j hj).2⟩
  by_cases e : j = k
  · subst e; rw [if_pos rfl]; exact World.cell?_setCell_same _ _ _ (h j hj).1
  · rw [if_neg e, World.cell?_setCell_other _ _ _ _ (by intro hh; injection hh with _ h2 _; exact e h2.symm)]; exact (h j hj).1
theorem Filled.congr {w : World} {B len : Nat} {f g : Nat → Int} (h : Filled w B len f) (hg : ∀ j, j < len → g j = f j) : Filled w B len g := fun j hj => by rw [hg j hj]; exact h j hj
theorem Filled.made (w : World) (len : Nat) : Filled (w.alloc (.cells (madeCells #[.int .u8 0] len) 5)) w.heap.size len (fun _ => 0) := by
  intro j hj
  constructor
  · simp [go_sem]
    rw [← Array.getElem?_toList, toList_madeCells_one, List.getElem?_replicate, if_pos hj]
  · simp [go_sem]
theorem step_if (zs : List Int) (k j : Nat) : (if j < k + 1 then zs.getD j 0 else 0) = if j = k then zs[k]?.getD 0 else if j < k then zs.getD j 0 else 0 := by
  by_cases e : j = k
  · subst e; simp
  · rw [if_neg e]; by_cases h : j < k
    · rw [if_pos h, if_pos (by omega)]
    · rw [if_neg h, if_neg (by omega)]
set_option maxHeartbeats 400000 in
theorem clone_any (b off len cap : Nat) (zs : List Int) (w : World) (hl : len ≤ 1048576) (hc : ∀ j, j < len → w.cell? ⟨b, off + j, none⟩ = some (.int .u8 (zs.getD j 0))) (hb : 0 < len → b < w.heap.size) :
    Calls Trym.prog 6 #[.slice (some ⟨b, off, none⟩) len cap] w fun e w' => e = .returned (.slice (some ⟨w.heap.size, 0, none⟩) len len) ∧ Below w.heap.size w w' ∧ w.heap.size < w'.heap.size ∧ Filled w' w.heap.size len (fun j => zs.getD j 0) := by
  have hmk := run_make_row' (P := Trym.prog) 22 5 (.int .u8 0) 1 Trym.underlying22 info5 rfl .i64 .i64 len (by omega) (by omega)
  have hnil := fun w => Lib.run_eql_slice_nil (P := Trym.prog) w 22 5 (some ⟨b, off, none⟩) len cap 0 0 Trym.underlying22
  go_enter Trym.func6, Trym.ntmps6
  go_wp2
  clear hmk hnil
  go_loopw [4] (fun i wr => ∃ k : Nat, k ≤ len ∧ i = .int .i64 k ∧ Below w.heap.size w wr ∧ w.heap.size < wr.heap.size ∧ Filled wr w.heap.size len (fun j => if j < k then zs.getD j 0 else 0)) (fun i _ => len - (intOf i).toNat)
  case atStart => exact ⟨0, Nat.zero_le _, rfl, (Below.refl _ _).alloc (Nat.le_refl _) _, by simp, by simpa using Filled.made w len⟩
  case round =>
    obtain ⟨k, hk, rfl, hbel, hsz, hfil⟩ := hrel
    by_cases hlt : k < len
    · have hb' := hb (by omega)
      have hck : wr.cell? ⟨b, off + k, none⟩ = some (.int .u8 (zs.getD k 0)) := (hbel.cell (p := ⟨b, off + k, none⟩) hb').trans (hc k hlt)
      have hdk := (hfil k hlt).1
      have hfk := (hfil k hlt).2
      go_wp2
      go_roundw
      case rel => 
        exact ⟨k + 1, by omega, by go_num, hbel.setCell (Nat.le_refl _) _, by simpa using hsz, hfil.set k hlt _ _ (fun j _ => step_if zs k j)⟩
      case measure => simp [intOf]; omega
    · go_wp2
      go_ret
      exact ⟨rfl, hbel, hsz, hfil.congr fun j hj => by rw [if_pos (by omega)]⟩
set_option maxHeartbeats 400000 in
theorem clone_empty (x : Addr) (cap : Nat) (w : World) :
    Calls Trym.prog 6 #[.slice (some x) 0 cap] w fun e w' => e = .returned (.slice (some ⟨w.heap.size, 0, none⟩) 0 0) ∧ Below w.heap.size w w' ∧ w.heap.size < w'.heap.size := by
  have hmk : ∀ w, (Instr.makeSlice 22 (.int .i64 0) (.int .i64 0)).run Trym.prog w = .ok (.slice (some ⟨w.heap.size, 0, none⟩) 0 0) (w.alloc (.cells (madeCells #[.int .u8 0] 0) 5)) := run_make_row' (P := Trym.prog) 22 5 (.int .u8 0) 1 Trym.underlying22 info5 rfl .i64 .i64 0 (by omega) (by omega)
  have hnil := fun w => Lib.run_eql_slice_nil (P := Trym.prog) w 22 5 (some x) 0 cap 0 0 Trym.underlying22
  go_enter Trym.func6, Trym.ntmps6
  go_wp2
  go_loop [4] (fun i => i = .int .i64 0) (fun _ => 0)
  case atStart => rfl
  case round =>
    subst hrel
    go_wp2
    go_ret
    exact ⟨rfl, (Below.refl _ _).alloc (Nat.le_refl _) _, by simp⟩
theorem clone_nil (w : World) :
    Calls Trym.prog 6 #[.slice none 0 0] w fun e w' => e = .returned (.slice none 0 0) ∧ w' = w := by
  have hnil := fun w => Lib.run_eql_slice_nil (P := Trym.prog) w 22 5 none 0 0 0 0 Trym.underlying22
  go_enter Trym.func6, Trym.ntmps6
  go_wp2
  go_ret
  exact ⟨rfl, rfl⟩
end Go.Proofs.Qxb6603224aMods
