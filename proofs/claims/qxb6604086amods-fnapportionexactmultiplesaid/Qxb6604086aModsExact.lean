import Derived.Test.Qxb6604086aModsZero
namespace Go.Proofs.Qxb6604086aMods
open Go.RowKit Ham
theorem q_mul (m T : Int) (X : List Int) (i : Nat) (hT : 0 < T) : q (m * T) T X i = m * X.getD i 0 := by
  unfold q
  rw [show m * T * X.getD i 0 = m * X.getD i 0 * T from by rw [Int.mul_assoc, Int.mul_comm T, ← Int.mul_assoc]]
  exact Int.mul_ediv_cancel _ (by omega)
theorem exact_good {m T : Int} {X S : List Int} (h : Ham.Good (m * T) T X S) (hp : Pre (m * T) T X) : ∀ i, i < 4 → S.getD i 0 = m * X.getD i 0 := by
  have e0 := h.each 0 (by omega)
  have e1 := h.each 1 (by omega)
  have e2 := h.each 2 (by omega)
  have e3 := h.each 3 (by omega)
  have ht := h.tot
  have hs : m * T = m * X.getD 0 0 + m * X.getD 1 0 + m * X.getD 2 0 + m * X.getD 3 0 := by
    rw [hp.sum]; unfold s4; rw [Int.mul_add, Int.mul_add, Int.mul_add]
  unfold s4 at ht
  rw [q_mul m T X _ hp.hT] at e0 e1 e2 e3
  exact four (by omega) (by omega) (by omega) (by omega)
theorem zero_of {X : List Int} (hX : X.length = 4) (h : ∀ i, i < 4 → 0 ≤ X.getD i 0) (hz : ps X 4 = 0) : X = Z4 := by
  obtain ⟨a, b, c, d, rfl⟩ := four_of hX
  have h0 := h 0 (by omega)
  have h1 := h 1 (by omega)
  have h2 := h 2 (by omega)
  have h3 := h 3 (by omega)
  rw [ps_four] at hz
  simp [s4] at h0 h1 h2 h3 hz
  have : a = 0 ∧ b = 0 ∧ c = 0 ∧ d = 0 := ⟨by omega, by omega, by omega, by omega⟩
  obtain ⟨rfl, rfl, rfl, rfl⟩ := this
  rfl
theorem le_tot {n T : Int} {X : List Int} (h : Pre n T X) (i : Nat) (hi : i < 4) : X.getD i 0 ≤ T := by
  have h1 := ps_bd h i (by omega)
  have h2 := ps_bd h (i + 1) (by omega)
  have e : ps X (i + 1) = ps X i + X.getD i 0 := rfl
  omega
set_option maxRecDepth 100000 in
set_option maxHeartbeats 2000000 in
theorem exact_main (m : Int) (X : List Int) (w : World) (hX : X.length = 4) (hm1 : -9223372036854775808 ≤ m) (hmm : m ≤ 9223372036854775807) (hb : Hid (∀ i, i < 4 → -9223372036854775808 ≤ X.getD i 0 ∧ X.getD i 0 ≤ 9223372036854775807)) :
    Calls Trym.prog 4 #[.int .i64 m, .agg (i64s X).toArray] w fun e w' => e = .returned (.bool true) ∧ Below w.heap.size w w' := by
  have HX : Hid (X.length = 4) := hX
  clear hX
  go_enter Trym.func4, Trym.ntmps4
  go_upto_region 1 with fail
  obtain ⟨V, hV⟩ : ∃ V, V = w.alloc (.cells (i64s X).toArray 22) := ⟨_, rfl⟩
  rw [← hV]
  have HV3 : Hid (Rw V w.heap.size 22 X) := by rw [hV]; exact Rw.new _ _ _
  have HVB : Hid (Below w.heap.size w V) := by rw [hV]; exact (Below.refl _ _).alloc (Nat.le_refl _) _
  clear hV
  by_cases hn : m < 0
  · go_wp2
    go_ret
    exact ⟨rfl, HVB.out⟩
  · have hm0 : 0 ≤ m := by omega
    go_wp2
    go_loop [5, 6] (fun t i => ∃ k : Nat, k ≤ 4 ∧ i = .int .i64 k ∧ t = .int .i64 (ps X k) ∧ Hid ((∀ j, j < k → 0 ≤ X.getD j 0) ∧ 0 ≤ ps X k ∧ ps X k ≤ 9223372036854775807)) (fun _ i => 4 - (intOf i).toNat)
    case atStart => exact ⟨0, by omega, rfl, rfl, fun j hj => by omega, by simp [ps], by simp [ps]⟩
    case round =>
      obtain ⟨k, hk, rfl, rfl, HR⟩ := hrel
      by_cases hlt : k < 4
      · have hxb := hb.out k hlt
        obtain ⟨x, hx⟩ : ∃ x, x = X.getD k 0 := ⟨_, rfl⟩
        obtain ⟨s, hs⟩ : ∃ s, s = ps X k := ⟨_, rfl⟩
        have hc : V.cell? ⟨w.heap.size, k, none⟩ = some (.int .i64 x) := by rw [hx]; exact HV3.out.cell k (by rw [HX.out]; exact hlt)
        rw [← hx] at hxb
        have hs0 : 0 ≤ s := by rw [hs]; exact HR.out.2.1
        have hs1 : s ≤ 9223372036854775807 := by rw [hs]; exact HR.out.2.2
        rw [← hs]
        have HSX : Hid (s + x = ps X (k + 1) ∧ x = X.getD k 0) := ⟨by rw [hs, hx]; rfl, hx⟩
        clear hs hx
        by_cases hneg : x < 0
        · go_wp2
          go_ret
          exact ⟨rfl, HVB.out⟩
        · by_cases hbig : 9223372036854775807 - s < x
          · go_wp2
            go_ret
            exact ⟨rfl, HVB.out⟩
          · go_wp2
            go_round
            case rel =>
              refine ⟨k + 1, by omega, by go_num, by rw [← HSX.out.1], fun j hj => ?_, by rw [← HSX.out.1]; omega, by rw [← HSX.out.1]; omega⟩
              by_cases e : j = k
              · subst e; rw [← HSX.out.2]; omega
              · exact HR.out.1 j (by omega)
            case measure => simp [intOf]; omega
      · obtain rfl : k = 4 := by omega
        clear hlt hk
        by_cases hz : ps X 4 = 0
        · have hXZ := zero_of HX.out HR.out.1 hz
          rw [hz]
          have HVZ : Hid (Rw V w.heap.size 22 Z4) := by rw [← hXZ]; exact HV3.out
          clear hz hXZ HR
          go_upto_region 20 with fail
          go_wp2_with (refine wpList_load_part (by rfl) 22 (.tmp 3) rfl w.heap.size 0 rfl 22 _ _ (i64s Z4) _ HVZ.out.load (fun j _ => by simp) Trym.underlying22 rfl (sz22 rfl) ?_)
          refine (zz_zero 0 _).mono ?_
          rintro e w5 ⟨S, rfl, rfl, hb5⟩
          have HW3 : Hid (Rw w5 w.heap.size 22 Z4) := HVZ.out.later hb5 HVZ.out.lt
          have HWB : Hid (Below w.heap.size w w5) := HVB.out.trans (hb5.mono HVB.out.size)
          clear hb5
          obtain ⟨wf, hwf⟩ : ∃ wf, wf = w5.alloc (.cells (i64s [0, 0, 0, 0]).toArray 22) := ⟨_, rfl⟩
          have HWF : Hid ((w5.alloc (.cells (i64s Z4).toArray 22)).setRow w5.heap.size (i64s [0, 0, 0, 0]).toArray = wf) := by rw [hwf]; exact setRow_alloc_at _ _ _ _
          have HF10 : Hid (Rw wf w5.heap.size 22 Z4) := by rw [hwf]; exact Rw.new _ _ _
          have HF3 : Hid (Rw wf w.heap.size 22 Z4) := by rw [hwf]; exact HW3.out.alloc _
          have HFB : Hid (Below w.heap.size w wf) := by rw [hwf]; exact HWB.out.alloc HWB.out.size _
          clear hwf HW3 HWB
          go_wp2_with (refine store_row (w' := wf) (by rfl) 22 (.tmp 10) (.tmp 65) rfl w5.heap.size (i64s [0, 0, 0, 0]) rfl rfl 22 (i64s Z4) (heap_alloc_new _ _) (sz22 rfl) rfl (i64s_one _) HWF.out rfl ?_)
          go_loopw [11] (fun i wx => ∃ k nd : Nat, k ≤ 4 ∧ i = .int .i64 k ∧ wx = wf.drewN nd) (fun i _ => 4 - (intOf i).toNat)
          case atStart => exact ⟨0, 0, by omega, rfl, rfl⟩
          case round =>
            obtain ⟨k, nd, hk, rfl, rfl⟩ := hrel
            by_cases hlt : k < 4
            · have hki : (k : Int) < 4 := by omega
              have hcS := HF10.out.cell k (by exact hlt)
              have hcX := HF3.out.cell k (by exact hlt)
              rw [Z4_at k hlt] at hcS hcX
              go_wp2
              go_quiet (fail)
              go_wp2
              go_roundw
              case rel => first | exact ⟨k + 1, nd + nq, by omega, by go_num, by simp⟩ | ((repeat apply Exists.intro); exact ⟨⟨k + 1, nd + nq, by omega, by go_num, by simp⟩, rfl⟩)
              case measure => simp [intOf]; omega
            · go_wp2
              go_ret
              exact ⟨rfl, below_drewN HFB.out nd⟩
        · obtain ⟨T, hT⟩ : ∃ T, T = ps X 4 := ⟨_, rfl⟩
          rw [← hT]
          have hT0 : 0 < T := by have := HR.out.2.1; omega
          have hTm : T ≤ 9223372036854775807 := by rw [hT]; exact HR.out.2.2
          have HTP : Hid (∀ n, 0 ≤ n → Pre n T X) := fun n hn => ⟨HX.out, HR.out.1, by rw [hT, ps_four], hT0, hn⟩
          clear hT HR hz
          have hq0 : 0 ≤ 9223372036854775807 / T := Int.ediv_nonneg (by omega) (by omega)
          have hq1 : 9223372036854775807 / T ≤ 9223372036854775807 := Int.ediv_le_self _ (by omega)
          by_cases hbig : 9223372036854775807 / T < m
          · go_wp2
            go_ret
            exact ⟨rfl, HVB.out⟩
          · have hn1 : m * T ≤ 9223372036854775807 := (Int.le_ediv_iff_mul_le hT0).1 (by omega)
            have hn0 : 0 ≤ m * T := Int.mul_nonneg hm0 (by omega)
            have HP : Hid (Pre (m * T) T X) := HTP.out _ hn0
            clear HTP
            go_wp2
            go_loop [8] (fun i => ∃ k : Nat, k ≤ 4 ∧ i = .int .i64 k ∧ Hid (∀ j, j < k → m * T * X.getD j 0 ≤ 9223372036854775807)) (fun i => 4 - (intOf i).toNat)
            case atStart => exact ⟨0, by omega, rfl, fun j hj => by omega⟩
            case round =>
              obtain ⟨k, hk, rfl, HM⟩ := hrel
              by_cases hlt : k < 4
              · have hx0 := HP.out.pos k hlt
                have hxb := hb.out k hlt
                obtain ⟨x, hx⟩ : ∃ x, x = X.getD k 0 := ⟨_, rfl⟩
                have hc : V.cell? ⟨w.heap.size, k, none⟩ = some (.int .i64 x) := by rw [hx]; exact HV3.out.cell k (by rw [HX.out]; exact hlt)
                rw [← hx] at hx0 hxb
                have HXE : Hid (x = X.getD k 0) := hx
                clear hx
                by_cases hpos : 0 < x
                · have hp0 : 0 ≤ 9223372036854775807 / x := Int.ediv_nonneg (by omega) hx0
                  have hp1 : 9223372036854775807 / x ≤ 9223372036854775807 := Int.ediv_le_self _ (by omega)
                  by_cases hbig2 : 9223372036854775807 / x < m * T
                  · go_wp2
                    go_ret
                    exact ⟨rfl, HVB.out⟩
                  · have HN : Hid (m * T * x ≤ 9223372036854775807) := (Int.le_ediv_iff_mul_le hpos).1 (by omega)
                    go_wp2
                    go_round
                    case rel =>
                      refine ⟨k + 1, by omega, by go_num, fun j hj => ?_⟩
                      by_cases e : j = k
                      · subst e; rw [← HXE.out]; exact HN.out
                      · exact HM.out j (by omega)
                    case measure => simp [intOf]; omega
                · have HN : Hid (m * T * x ≤ 9223372036854775807) := by
                    have : x = 0 := by omega
                    show m * T * x ≤ 9223372036854775807
                    rw [this, Int.mul_zero]; omega
                  go_wp2
                  go_round
                  case rel =>
                    refine ⟨k + 1, by omega, by go_num, fun j hj => ?_⟩
                    by_cases e : j = k
                    · subst e; rw [← HXE.out]; exact HN.out
                    · exact HM.out j (by omega)
                  case measure => simp [intOf]; omega
              · obtain rfl : k = 4 := by omega
                clear hlt hk
                go_upto_region 20 with fail
                go_wp2_with (refine wpList_load_part (by rfl) 22 (.tmp 3) rfl w.heap.size 0 rfl 22 _ _ (i64s X) _ HV3.out.load (fun j _ => by simp) Trym.underlying22 rfl (sz22 HX.out) ?_)
                refine (zz_good (m * T) T X _ HP.out HM.out hTm hn1).mono ?_
                rintro e w5 ⟨S, rfl, hGS, hb5⟩
                have HE : Hid (∀ i, i < 4 → S.getD i 0 = m * X.getD i 0) := exact_good hGS HP.out
                have HSL : Hid (S.length = 4) := hGS.len
                have HW3 : Hid (Rw w5 w.heap.size 22 X) := HV3.out.later hb5 HV3.out.lt
                have HWB : Hid (Below w.heap.size w w5) := HVB.out.trans (hb5.mono HVB.out.size)
                clear hb5 hGS
                obtain ⟨wf, hwf⟩ : ∃ wf, wf = w5.alloc (.cells (i64s S).toArray 22) := ⟨_, rfl⟩
                have HWF : Hid ((w5.alloc (.cells (i64s Z4).toArray 22)).setRow w5.heap.size (i64s S).toArray = wf) := by rw [hwf]; exact setRow_alloc_at _ _ _ _
                have HLS : Hid ((i64s Z4).length = (i64s S).length) := by show (i64s Z4).length = (i64s S).length; rw [i64s_len S, HSL.out]; rfl
                have HF10 : Hid (Rw wf w5.heap.size 22 S) := by rw [hwf]; exact Rw.new _ _ _
                have HF3 : Hid (Rw wf w.heap.size 22 X) := by rw [hwf]; exact HW3.out.alloc _
                have HFB : Hid (Below w.heap.size w wf) := by rw [hwf]; exact HWB.out.alloc HWB.out.size _
                clear hwf HW3 HWB
                go_wp2_with (refine store_row (w' := wf) (by rfl) 22 (.tmp 10) (.tmp 65) rfl w5.heap.size (i64s S) rfl rfl 22 (i64s Z4) (heap_alloc_new _ _) (sz22 HSL.out) HLS.out (i64s_one _) HWF.out rfl ?_)
                go_loopw [11] (fun i wx => ∃ k nd : Nat, k ≤ 4 ∧ i = .int .i64 k ∧ wx = wf.drewN nd) (fun i _ => 4 - (intOf i).toNat)
                case atStart => exact ⟨0, 0, by omega, rfl, rfl⟩
                case round =>
                  obtain ⟨k, nd, hk, rfl, rfl⟩ := hrel
                  by_cases hlt : k < 4
                  · have hki : (k : Int) < 4 := by omega
                    have hcS := HF10.out.cell k (by rw [HSL.out]; exact hlt)
                    have hcX := HF3.out.cell k (by rw [HX.out]; exact hlt)
                    have hxT := le_tot HP.out k hlt
                    have hx0 := HP.out.pos k hlt
                    rw [HE.out k hlt] at hcS
                    obtain ⟨x, hx⟩ : ∃ x, x = X.getD k 0 := ⟨_, rfl⟩
                    rw [← hx] at hcS hcX hxT hx0
                    have hp0 : 0 ≤ m * x := Int.mul_nonneg hm0 hx0
                    have hp1 : m * x ≤ 9223372036854775807 := Int.le_trans (Int.mul_le_mul_of_nonneg_left hxT hm0) hn1
                    clear hx
                    go_wp2
                    go_quiet (fail)
                    go_wp2
                    go_roundw
                    case rel => first | exact ⟨k + 1, nd + nq, by omega, by go_num, by simp⟩ | ((repeat apply Exists.intro); exact ⟨⟨k + 1, nd + nq, by omega, by go_num, by simp⟩, rfl⟩)
                    case measure => simp [intOf]; omega
                  · go_wp2
                    go_ret
                    exact ⟨rfl, below_drewN HFB.out nd⟩
end Go.Proofs.Qxb6604086aMods
