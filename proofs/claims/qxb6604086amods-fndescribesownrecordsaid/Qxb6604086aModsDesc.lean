import Derived.Test.Qxb6604086aModsProg
import Derived.Test.Qxb6604086aModsOpen
import Derived.Test.Qxb6604086aModsLaws
import Derived.WalkLawsBesides
import Derived.Deep.QuietTactic
import Derived.BigQuiet
namespace Go.Proofs.Qxb6604086aMods
open Go.RowKit
theorem size5 : ∀ w, (sizeOf 5).run Trym.prog w = .ok 1 w := by intro w; kernel_rfl
theorem info30 : (Trym.prog.info? 30).map (·.size) = some 32 := by kernel_rfl
theorem info26 : (Trym.prog.info? 26).map (·.size) = some 32 := by kernel_rfl
theorem info32 : (Trym.prog.info? 32).map (·.size) = some 38 := by kernel_rfl
/-- the bytes of a digest, as cells -/
def bys (l : List Int) : List Value := l.map (Value.int .u8)
/-- the cells of a record of this kind, digest and length -/
def rec (k : Int) (D : List Int) (ln : Int) : List Value := [.int .u8 k, .slice none 0 0, .int .u64 0, .int .u64 0] ++ (bys D ++ [.int .i64 0, .int .i64 ln])
theorem bys_len (l : List Int) : (bys l).length = l.length := by simp [bys]
theorem bys_at (l : List Int) (i : Nat) (h : i < l.length) : (bys l)[i]? = some (.int .u8 (l.getD i 0)) := by simp [bys, h]
theorem rec_len (k : Int) (D : List Int) (ln : Int) (h : D.length = 32) : (rec k D ln).length = 38 := by simp [rec, bys, h]
theorem rec_0 (k : Int) (D : List Int) (ln : Int) : (rec k D ln)[0]? = some (.int .u8 k) := rfl
theorem rec_dig (k : Int) (D : List Int) (ln : Int) (j : Nat) (h : j < D.length) : (rec k D ln)[4 + j]? = (bys D)[j]? := by
  unfold rec
  rw [List.getElem?_append_right (by simp)]
  simp only [List.length_cons, List.length_nil]
  rw [show 4 + j - (0 + 1 + 1 + 1 + 1) = j from by omega, List.getElem?_append_left (by rw [bys_len]; exact h)]
theorem rec_37 (k : Int) (D : List Int) (ln : Int) (h : D.length = 32) : (rec k D ln)[37]? = some (.int .i64 ln) := by
  unfold rec
  rw [List.getElem?_append_right (by simp)]
  simp only [List.length_cons, List.length_nil]
  rw [List.getElem?_append_right (by rw [bys_len, h]; omega), bys_len, h]
  rfl
theorem bys_one (l : List Int) : ∀ v ∈ bys l, v.oneCell' = true := by
  intro v hv
  simp only [bys, List.mem_map] at hv
  obtain ⟨x, _, rfl⟩ := hv
  rfl
/-- a check describes what its first four bytes describe -/
theorem desc_check (ln length : Int) (D S : List Int) (hD : D.length = 32) (hS : S.length = 32) (w : World) :
    Calls Trym.prog 7 #[.agg (rec 7 D ln).toArray, .int .i64 length, .agg (bys S).toArray] w fun e w' => e = .returned (.bool (D.take 4 == S.take 4)) ∧ Below w.heap.size w w' := by
  have q1 : ∀ (a : Addr) (w : World), (Instr.sliceAt 30 (.pointer (some a)) none none none).run Trym.prog w = .ok (.slice (some a) 32 32) w := by intro a w; kernel_rfl
  have q2 : ∀ (a : Addr) (w : World), (Instr.arrayAt 37 (.slice (some a) 32 32)).run Trym.prog w = .ok (.pointer (some a)) w := by intro a w; kernel_rfl
  have r0 := rec_0 7 D ln
  obtain ⟨d0, d1, d2, d3, Dr, rfl⟩ : ∃ d0 d1 d2 d3 Dr, D = d0 :: d1 :: d2 :: d3 :: Dr := by
    match D, hD with
    | d0 :: d1 :: d2 :: d3 :: Dr, _ => exact ⟨d0, d1, d2, d3, Dr, rfl⟩
  obtain ⟨s0, s1, s2, s3, Sr, rfl⟩ : ∃ d0 d1 d2 d3 Dr, S = d0 :: d1 :: d2 :: d3 :: Dr := by
    match S, hS with
    | d0 :: d1 :: d2 :: d3 :: Dr, _ => exact ⟨d0, d1, d2, d3, Dr, rfl⟩
  obtain ⟨R, hR⟩ : ∃ R, R = rec 7 (d0 :: d1 :: d2 :: d3 :: Dr) ln := ⟨_, rfl⟩
  obtain ⟨T, hT⟩ : ∃ T, T = bys (s0 :: s1 :: s2 :: s3 :: Sr) := ⟨_, rfl⟩
  have r4 : R[4]? = some (.int .u8 d0) := by rw [hR]; rfl
  have r5 : R[5]? = some (.int .u8 d1) := by rw [hR]; rfl
  have r6 : R[6]? = some (.int .u8 d2) := by rw [hR]; rfl
  have r7 : R[7]? = some (.int .u8 d3) := by rw [hR]; rfl
  have t0 : T[0]? = some (.int .u8 s0) := by rw [hT]; rfl
  have t1 : T[1]? = some (.int .u8 s1) := by rw [hT]; rfl
  have t2 : T[2]? = some (.int .u8 s2) := by rw [hT]; rfl
  have t3 : T[3]? = some (.int .u8 s3) := by rw [hT]; rfl
  rw [← hR] at r0
  rw [← hR, ← hT]
  clear hR hT hD hS
  obtain ⟨r, hr⟩ : ∃ r, r = ((d0 :: d1 :: d2 :: d3 :: Dr).take 4 == (s0 :: s1 :: s2 :: s3 :: Sr).take 4) := ⟨_, rfl⟩
  rw [← hr]
  have q3 : ∀ w : World, (Op.equalIn 10000 37 (.agg #[.int .u8 d0, .int .u8 d1, .int .u8 d2, .int .u8 d3]) (.agg #[.int .u8 s0, .int .u8 s1, .int .u8 s2, .int .u8 s3])).run Trym.prog w = .ok r w := by
    intro w; rw [hr]
    exact run_equalIn_ints w 9998 37 5 4 .u8 Trym.underlying37 Trym.underlying5 size5 [d0, d1, d2, d3] [s0, s1, s2, s3] rfl rfl
  clear hr
  go_enter Trym.func7, Trym.ntmps7
  go_wp2
  go_quiet (fail)
  go_wp2
  go_ret
  exact ⟨rfl, below_drewN (((Below.refl _ _).alloc (Nat.le_refl _) _).alloc (by simp) _) _⟩
set_option maxHeartbeats 400000 in
/-- another record describes a length and a digest that are its own -/
theorem desc_same (k ln : Int) (hk : (k == 7) = false) (D S : List Int) (hD : D.length = 32) (hS : S.length = 32) (w : World) :
    Calls Trym.prog 7 #[.agg (rec k D ln).toArray, .int .i64 ln, .agg (bys S).toArray] w fun e w' => e = .returned (.bool (D == S)) ∧ Below w.heap.size w w' := by
  obtain ⟨r, hr⟩ : ∃ r, r = (D == S) := ⟨_, rfl⟩
  rw [← hr]
  have r0 := rec_0 k D ln
  have r37 := rec_37 k D ln hD
  have q3 : ∀ w : World, (Op.equalIn 10000 30 (.agg (bys D).toArray) (.agg (bys S).toArray)).run Trym.prog w = .ok r w := by
    intro w; rw [hr]
    exact run_equalIn_ints w 9998 30 5 32 .u8 Trym.underlying30 Trym.underlying5 size5 D S hD hS
  have HD : Hid (∀ j, j < (bys D).length → (rec k D ln).toArray[4 + j]? = (bys D)[j]?) := fun j hj => by
    rw [List.getElem?_toArray]; exact rec_dig k D ln j (by rwa [bys_len] at hj)
  have HD2 : Hid ((Trym.prog.info? 30).map (·.size) = some (bys D).length) := by show (Trym.prog.info? 30).map (·.size) = some (bys D).length; rw [bys_len, hD]; exact info30
  have HS2 : Hid ((Trym.prog.info? 30).map (·.size) = some (bys S).length) := by show (Trym.prog.info? 30).map (·.size) = some (bys S).length; rw [bys_len, hS]; exact info30
  have HG1 : Hid (((w.alloc (.cells (rec k D ln).toArray 32)).alloc (.cells (bys S).toArray 30)).heap[w.heap.size]? = some (.cells (rec k D ln).toArray 32 (0, 0))) := heap_alloc2_old _ _ _
  have HG2 : Hid (((w.alloc (.cells (rec k D ln).toArray 32)).alloc (.cells (bys S).toArray 30)).heap[w.heap.size + 1]? = some (.cells (bys S).toArray 30 (0, 0))) := heap_alloc2_new _ _ _
  clear hr hD hS
  go_enter Trym.func7, Trym.ntmps7
  go_wp2_with (first
    | (refine wpList_load_part (by rfl) 30 (.tmp 23) rfl w.heap.size 4 rfl 32 _ _ (bys D) _ HG1.out HD.out Trym.underlying30 rfl HD2.out ?_)
    | (refine wpList_load_part (by rfl) 30 (.tmp 5) rfl (w.heap.size + 1) 0 rfl 30 _ _ (bys S) _ HG2.out (fun j _ => by simp) Trym.underlying30 rfl HS2.out ?_))
  go_ret
  exact ⟨rfl, ((Below.refl _ _).alloc (Nat.le_refl _) _).alloc (by simp) _⟩
/-- .. and no other length -/
theorem desc_other (k ln length : Int) (hk : (k == 7) = false) (hl : (ln == length) = false) (D S : List Int) (hD : D.length = 32) (w : World) :
    Calls Trym.prog 7 #[.agg (rec k D ln).toArray, .int .i64 length, .agg (bys S).toArray] w fun e w' => e = .returned (.bool false) ∧ Below w.heap.size w w' := by
  have r0 := rec_0 k D ln
  have r37 := rec_37 k D ln hD
  go_enter Trym.func7, Trym.ntmps7
  go_wp2
  go_ret
  exact ⟨rfl, ((Below.refl _ _).alloc (Nat.le_refl _) _).alloc (by simp) _⟩
end Go.Proofs.Qxb6604086aMods
