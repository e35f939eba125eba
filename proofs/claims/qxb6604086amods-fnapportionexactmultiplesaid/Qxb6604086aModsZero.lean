import Derived.Test.Qxb6604086aModsApp
namespace Go.Proofs.Qxb6604086aMods
open Go.RowKit Ham
theorem Z4_at (k : Nat) (hk : k < 4) : Z4.getD k 0 = 0 := by
  match k, hk with
  | 0, _ => rfl
  | 1, _ => rfl
  | 2, _ => rfl
  | 3, _ => rfl
set_option maxRecDepth 100000 in
set_option maxHeartbeats 1000000 in
/-- where the weights are all nought all of n goes to the last share -/
theorem app_zero (n : Int) (w : World) :
    Calls Trym.prog 8 #[.int .i64 n, .agg (i64s Z4).toArray] w fun e w' => e = .returned (.agg (i64s [0, 0, 0, n]).toArray) ∧ Below w.heap.size w w' := by
  go_enter Trym.func8, Trym.ntmps8
  go_upto_region 1 with fail
  obtain ⟨V, hV⟩ : ∃ V, V = (w.alloc (.cells (i64s Z4).toArray 35)).alloc (.cells #[.int .i64 0, .int .i64 0, .int .i64 0, .int .i64 0] 35) := ⟨_, rfl⟩
  rw [← hV]
  have HV3 : Hid (Rw V w.heap.size 35 Z4) := by rw [hV]; exact (Rw.new _ _ _).alloc _
  have HV4 : Hid (Rw V (w.heap.size + 1) 35 Z4) := by rw [hV]; exact heap_alloc2_new _ _ _
  have HVS : Hid (V.heap.size = w.heap.size + 2) := by rw [hV]; exact (by simp : ((w.alloc (.cells (i64s Z4).toArray 35)).alloc (.cells #[.int .i64 0, .int .i64 0, .int .i64 0, .int .i64 0] 35)).heap.size = w.heap.size + 2)
  have HVB : Hid (Below w.heap.size w V) := by rw [hV]; exact ((Below.refl _ _).alloc (Nat.le_refl _) _).alloc (by simp) _
  clear hV
  go_wp2_with (refine wpList_load_part (by rfl) 35 (.tmp 3) rfl w.heap.size 0 rfl 35 _ _ (i64s Z4) _ HV3.out.load (fun j _ => by simp) Trym.underlying35 rfl (sz35 rfl) ?_)
  go_loop [5, 16] (fun t i => ∃ k : Nat, k ≤ 4 ∧ i = .int .i64 k ∧ t = .int .i64 0) (fun _ i => 4 - (intOf i).toNat)
  case atStart => exact ⟨0, by omega, rfl, rfl⟩
  case round =>
    obtain ⟨k, hk, rfl, rfl⟩ := hrel
    by_cases hlt : k < 4
    · have hix := fun w => index35 (X := Z4) rfl k hlt w
      simp only [Z4_at k hlt] at hix
      go_wp2
      go_round
      case rel => exact ⟨k + 1, by omega, by go_num, rfl⟩
      case measure => simp [intOf]; omega
    · obtain rfl : k = 4 := by omega
      clear hlt hk
      go_upto_region 10 with fail
      obtain ⟨g8, hg8⟩ : ∃ g, g = V.heap.size := ⟨_, rfl⟩
      obtain ⟨W, hW⟩ : ∃ W, W = V.alloc (.cells #[.int .i64 0, .int .i64 0, .int .i64 0, .int .i64 n] 35) := ⟨_, rfl⟩
      rw [← hW, ← hg8]
      have HG : Hid (w.heap.size + 1 < g8) := by rw [hg8]; have := HVS.out; exact (by omega : w.heap.size + 1 < V.heap.size)
      have HW4 : Hid (Rw W (w.heap.size + 1) 35 Z4) := by rw [hW]; exact HV4.out.alloc _
      have HW8 : Hid (Rw W g8 35 [0, 0, 0, n]) := by rw [hW, hg8]; exact heap_alloc_new _ _
      have HWB : Hid (Below w.heap.size w W) := by rw [hW]; exact HVB.out.alloc HVB.out.size _
      clear hW hg8 HV3 HV4 HVS HVB
      obtain ⟨wf, hwf⟩ : ∃ wf, wf = W.setRow (w.heap.size + 1) (i64s [0, 0, 0, n]).toArray := ⟨_, rfl⟩
      have HWF : Hid (W.setRow (w.heap.size + 1) (i64s [0, 0, 0, n]).toArray = wf) := hwf.symm
      have HWR : Hid (Rw wf (w.heap.size + 1) 35 [0, 0, 0, n]) := by rw [hwf]; exact setRow_heap _ _ _ _ _ _ HW4.out
      have HWB2 : Hid (Below w.heap.size w wf) := by rw [hwf]; exact below_row HWB.out (by omega) _
      clear hwf
      go_wp2_with (first
        | (refine wpList_load_part (by rfl) 35 (.tmp 8) rfl g8 0 rfl 35 _ _ (i64s [0, 0, 0, n]) _ HW8.out.load (fun j _ => by simp) Trym.underlying35 rfl (sz35 rfl) ?_)
        | (refine store_row (w' := wf) (by rfl) 35 (.tmp 4) (.tmp 27) rfl (w.heap.size + 1) (i64s [0, 0, 0, n]) rfl rfl 35 (i64s Z4) HW4.out (sz35 rfl) rfl (i64s_one _) HWF.out rfl ?_))
      refine bodyPost_ret (v := .agg (i64s [0, 0, 0, n]).toArray) (results_cell_row Trym.results8 _ _ (w.heap.size + 1) 35 _ _ _ rfl HWR.out.load Trym.underlying35 rfl (by simpa using sz35 (l := [0, 0, 0, n]) rfl)) rfl ⟨rfl, HWB2.out⟩
set_option maxRecDepth 100000 in
/-- the shim hands on what apportion gives -/
theorem zz_of (n : Int) (X : List Int) (hX : X.length = 4) (G : List Int → Prop) (hG : ∀ S, G S → S.length = 4) (h : ∀ w, Calls Trym.prog 8 #[.int .i64 n, .agg (i64s X).toArray] w fun e w' => ∃ S, e = .returned (.agg (i64s S).toArray) ∧ G S ∧ Below w.heap.size w w') (w : World) :
    Calls Trym.prog 6 #[.int .i64 n, .agg (i64s X).toArray] w fun e w' => ∃ S, e = .returned (.agg (i64s S).toArray) ∧ G S ∧ Below w.heap.size w w' := by
  have HC : Hid (∀ w, Calls Trym.prog 8 #[.int .i64 n, .agg (i64s X).toArray] w fun e w' => ∃ S, e = .returned (.agg (i64s S).toArray) ∧ G S ∧ Below w.heap.size w w') := h
  have HX : Hid (X.length = 4) := hX
  clear h hX
  go_enter Trym.func6, Trym.ntmps6
  go_upto_region 1 with fail
  obtain ⟨V, hV⟩ : ∃ V, V = (w.alloc (.cells (i64s X).toArray 22)).alloc (.cells #[.int .i64 0, .int .i64 0, .int .i64 0, .int .i64 0] 22) := ⟨_, rfl⟩
  rw [← hV]
  have HV3 : Hid (Rw V w.heap.size 22 X) := by rw [hV]; exact (Rw.new _ _ _).alloc _
  have HV4 : Hid (Rw V (w.heap.size + 1) 22 Z4) := by rw [hV]; exact heap_alloc2_new _ _ _
  have HVB : Hid (Below w.heap.size w V) := by rw [hV]; exact ((Below.refl _ _).alloc (Nat.le_refl _) _).alloc (by simp) _
  clear hV
  go_wp2_with (first
    | (refine wpList_load_part (by rfl) 22 (.tmp 3) rfl w.heap.size 0 rfl 22 _ _ (i64s X) _ HV3.out.load (fun j _ => by simp) Trym.underlying22 rfl (sz22 HX.out) ?_)
    | (go_at_call 8; refine (HC.out _).mono ?_))
  rintro e w5 ⟨S, rfl, hGS, hb5⟩
  have HLS : Hid (S.length = 4) := hG S hGS
  have HGS : Hid (G S) := hGS
  have HW4 : Hid (Rw w5 (w.heap.size + 1) 22 Z4) := HV4.out.later hb5 HV4.out.lt
  have HWB : Hid (Below w.heap.size w w5) := HVB.out.trans (hb5.mono HVB.out.size)
  obtain ⟨wf, hwf⟩ : ∃ wf, wf = w5.setRow (w.heap.size + 1) (i64s S).toArray := ⟨_, rfl⟩
  have HWF : Hid (w5.setRow (w.heap.size + 1) (i64s S).toArray = wf) := hwf.symm
  have HWR : Hid (Rw wf (w.heap.size + 1) 22 S) := by rw [hwf]; exact setRow_heap _ _ _ _ _ _ HW4.out
  have HWB2 : Hid (Below w.heap.size w wf) := by rw [hwf]; exact below_row HWB.out (by omega) _
  clear hwf hGS hb5 hG HC
  go_wp2_with (refine store_row (w' := wf) (by rfl) 22 (.tmp 4) (.tmp 7) rfl (w.heap.size + 1) (i64s S) rfl rfl 22 (i64s Z4) HW4.out (sz22 HLS.out) (by rw [i64s_len, i64s_len, HLS.out]; rfl) (i64s_one _) HWF.out rfl ?_)
  refine bodyPost_ret (v := .agg (i64s S).toArray) (results_cell_row Trym.results6 _ _ (w.heap.size + 1) 22 _ _ _ rfl HWR.out.load Trym.underlying22 rfl (by simpa using sz22 HLS.out)) rfl ⟨S, rfl, HGS.out, HWB2.out⟩
theorem zz_good (n T : Int) (X : List Int) (w : World) (hp : Pre n T X) (hb : ∀ i, i < 4 → n * X.getD i 0 ≤ 9223372036854775807) (hTm : T ≤ 9223372036854775807) (hnm : n ≤ 9223372036854775807) :
    Calls Trym.prog 6 #[.int .i64 n, .agg (i64s X).toArray] w fun e w' => ∃ S, e = .returned (.agg (i64s S).toArray) ∧ Ham.Good n T X S ∧ Below w.heap.size w w' :=
  zz_of n X hp.len (Ham.Good n T X) (fun _ h => h.len) (fun w => app_any n T X w hp hb hTm hnm) w
theorem zz_zero (n : Int) (w : World) :
    Calls Trym.prog 6 #[.int .i64 n, .agg (i64s Z4).toArray] w fun e w' => ∃ S, e = .returned (.agg (i64s S).toArray) ∧ S = [0, 0, 0, n] ∧ Below w.heap.size w w' :=
  zz_of n Z4 rfl (fun S => S = [0, 0, 0, n]) (fun _ h => by rw [h]; rfl) (fun w => (app_zero n w).mono fun _ _ h => ⟨_, h.1, rfl, h.2⟩) w
end Go.Proofs.Qxb6604086aMods
