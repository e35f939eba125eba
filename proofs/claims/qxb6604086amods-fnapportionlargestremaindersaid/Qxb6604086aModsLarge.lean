import Derived.Test.Qxb6604086aModsZero
namespace Go.Proofs.Qxb6604086aMods
open Go.RowKit Ham
theorem last_at (n : Int) (k : Nat) (hk : k < 3) : [0, 0, 0, n].getD k 0 = 0 := by
  match k, hk with
  | 0, _ => rfl
  | 1, _ => rfl
  | 2, _ => rfl
set_option maxRecDepth 100000 in
set_option maxHeartbeats 1000000 in
theorem large_zero (n : Int) (w : World) :
    Calls Trym.prog 3 #[.int .i64 n, .agg (i64s Z4).toArray] w fun e w' => e = .returned (.bool true) ∧ Below w.heap.size w w' := by
  go_enter Trym.func3, Trym.ntmps3
  go_upto_region 1 with fail
  obtain ⟨V, hV⟩ : ∃ V, V = w.alloc (.cells (i64s Z4).toArray 22) := ⟨_, rfl⟩
  rw [← hV]
  have HV3 : Hid (Rw V w.heap.size 22 Z4) := by rw [hV]; exact Rw.new _ _ _
  have HVB : Hid (Below w.heap.size w V) := by rw [hV]; exact (Below.refl _ _).alloc (Nat.le_refl _) _
  have c0 : V.cell? ⟨w.heap.size, 0, none⟩ = some (.int .i64 0) := HV3.out.cell 0 (by decide)
  have c1 : V.cell? ⟨w.heap.size, 1, none⟩ = some (.int .i64 0) := HV3.out.cell 1 (by decide)
  have c2 : V.cell? ⟨w.heap.size, 2, none⟩ = some (.int .i64 0) := HV3.out.cell 2 (by decide)
  have c3 : V.cell? ⟨w.heap.size, 3, none⟩ = some (.int .i64 0) := HV3.out.cell 3 (by decide)
  clear hV
  go_wp2_with (first
    | (refine wpList_load_part (by rfl) 22 (.tmp 3) rfl w.heap.size 0 rfl 22 _ _ (i64s Z4) _ HV3.out.load (fun j _ => by simp) Trym.underlying22 rfl (sz22 rfl) ?_)
    | (go_at_call 6; refine (zz_zero n _).mono ?_))
  rintro e w5 ⟨S, rfl, rfl, hb5⟩
  have HWB : Hid (Below w.heap.size w w5) := HVB.out.trans (hb5.mono HVB.out.size)
  clear hb5 c0 c1 c2 c3
  obtain ⟨wf, hwf⟩ : ∃ wf, wf = w5.alloc (.cells (i64s [0, 0, 0, n]).toArray 22) := ⟨_, rfl⟩
  have HWF : Hid ((w5.alloc (.cells (i64s Z4).toArray 22)).setRow w5.heap.size (i64s [0, 0, 0, n]).toArray = wf) := by rw [hwf]; exact setRow_alloc_at _ _ _ _
  have HWR : Hid (Rw wf w5.heap.size 22 [0, 0, 0, n]) := by rw [hwf]; exact Rw.new _ _ _
  have HWB2 : Hid (Below w.heap.size w wf) := by rw [hwf]; exact HWB.out.alloc HWB.out.size _
  clear hwf
  go_wp2_with (refine store_row (w' := wf) (by rfl) 22 (.tmp 5) (.tmp 39) rfl w5.heap.size (i64s [0, 0, 0, n]) rfl rfl 22 (i64s Z4) (heap_alloc_new _ _) (sz22 rfl) rfl (i64s_one _) HWF.out rfl ?_)
  go_loop [6] (fun i => ∃ k : Nat, k ≤ 4 ∧ i = .int .i64 k) (fun i => 4 - (intOf i).toNat)
  case atStart => exact ⟨0, by omega, rfl⟩
  case round =>
    obtain ⟨k, hk, rfl⟩ := hrel
    by_cases hlt : k < 4
    · have hck := HWR.out.cell k (by exact hlt)
      by_cases h3 : k < 3
      · have e3 : ((k : Int) == 3) = false := by simp; omega
        rw [last_at n k h3] at hck
        go_wp2
        go_round
        case rel => exact ⟨k + 1, by omega, by go_num⟩
        case measure => simp [intOf]; omega
      · obtain rfl : k = 3 := by omega
        have hck' : wf.cell? ⟨w5.heap.size, 3, none⟩ = some (.int .i64 n) := hck
        clear hck
        go_wp2
        go_round
        case rel => exact ⟨4, by omega, rfl⟩
        case measure => simp [intOf]
    · go_wp2
      go_ret
      exact ⟨rfl, HWB2.out⟩
/-- Bools, as cells -/
def bls (l : List Bool) : List Value := l.map Value.bool
theorem bls_set (l : List Bool) (i : Nat) (v : Bool) : (bls l).set i (.bool v) = bls (l.set i v) := by simp [bls, List.map_set]
def Bw (w : World) (g : Nat) (t : TypeId) (l : List Bool) : Prop := w.heap[g]? = some (.cells (bls l).toArray t (0, 0))
theorem Bw.cell {w : World} {g : Nat} {t : TypeId} {l : List Bool} (h : Bw w g t l) (i : Nat) (hi : i < l.length) : w.cell? ⟨g, i, none⟩ = some (.bool (l.getD i false)) := by
  rw [cell_of_row _ _ i _ _ _ h, List.getElem?_toArray]; simp [bls, hi]
theorem Bw.frozen {w : World} {g : Nat} {t : TypeId} {l : List Bool} (h : Bw w g t l) (i : Nat) : w.frozen? ⟨g, i, none⟩ = false := by
  unfold Bw at h; simp [World.frozen?, h]
theorem Bw.setSame {w : World} {g : Nat} {t : TypeId} {l : List Bool} (h : Bw w g t l) (i : Nat) (v : Bool) : Bw (w.setCell ⟨g, i, none⟩ (.bool v)) g t (l.set i v) := by
  have := heap_setCell_same w g i _ t (.bool v) h
  simp only [List.setIfInBounds_toArray, bls_set] at this
  exact this
theorem Bw.setOther {w : World} {g : Nat} {t : TypeId} {l : List Bool} (h : Bw w g t l) (g' i : Nat) (v : Value) (hne : g ≠ g') : Bw (w.setCell ⟨g', i, none⟩ v) g t l := by
  unfold Bw; rw [heap_setCell_other _ _ _ _ hne]; exact h
def fb (n T : Int) (X S : List Int) (k : Nat) : List Bool := [if 0 < k then decide (S.getD 0 0 = q n T X 0 + 1) else false, if 1 < k then decide (S.getD 1 0 = q n T X 1 + 1) else false, if 2 < k then decide (S.getD 2 0 = q n T X 2 + 1) else false, if 3 < k then decide (S.getD 3 0 = q n T X 3 + 1) else false]
theorem fb_set (n T : Int) (X S : List Int) (k : Nat) (hk : k < 4) : (fb n T X S k).set k (decide (S.getD k 0 = q n T X k + 1)) = fb n T X S (k + 1) := by
  match k, hk with
  | 0, _ => rfl
  | 1, _ => rfl
  | 2, _ => rfl
  | 3, _ => rfl
theorem fb_at (n T : Int) (X S : List Int) (k : Nat) (hk : k < 4) : (fb n T X S 4).getD k false = decide (S.getD k 0 = q n T X k + 1) := by
  match k, hk with
  | 0, _ => rfl
  | 1, _ => rfl
  | 2, _ => rfl
  | 3, _ => rfl
theorem fr_at (n T : Int) (X : List Int) (k : Nat) (hk : k < 4) : (fr n T X 4).getD k 0 = r n T X k := by
  match k, hk with
  | 0, _ => rfl
  | 1, _ => rfl
  | 2, _ => rfl
  | 3, _ => rfl
theorem good_ps {n T : Int} {X S : List Int} (h : Ham.Good n T X S) (hp : Pre n T X) (k : Nat) (hk : k ≤ 4) : 0 ≤ ps S k ∧ ps S k ≤ n := by
  have all : ∀ j, j < 4 → 0 ≤ S.getD j 0 := fun j hj => by
    have := (qr hp j hj).2.1
    rcases h.each j hj with h1 | h1 <;> omega
  have e0 := all 0 (by omega)
  have e1 := all 1 (by omega)
  have e2 := all 2 (by omega)
  have e3 := all 3 (by omega)
  have ht := h.tot
  unfold s4 at ht
  match k, hk with
  | 0, _ => simp only [ps]; omega
  | 1, _ => simp only [ps]; omega
  | 2, _ => simp only [ps]; omega
  | 3, _ => simp only [ps]; omega
  | 4, _ => simp only [ps]; omega
theorem good_le {n T : Int} {X S : List Int} (h : Ham.Good n T X S) (hp : Pre n T X) (i : Nat) (hi : i < 4) : 0 ≤ S.getD i 0 ∧ S.getD i 0 ≤ n := by
  have h1 := good_ps h hp i (by omega)
  have h2 := good_ps h hp (i + 1) (by omega)
  have e : ps S (i + 1) = ps S i + S.getD i 0 := rfl
  have := (qr hp i hi).2.1
  rcases h.each i hi with h3 | h3 <;> omega
theorem pos_of {X : List Int} (hX : X.length = 4) (hz : X ≠ Z4) (h : ∀ i, i < 4 → 0 ≤ X.getD i 0) : 0 < s4 X := by
  obtain ⟨a, b, c, d, rfl⟩ := four_of hX
  have h0 := h 0 (by omega)
  have h1 := h 1 (by omega)
  have h2 := h 2 (by omega)
  have h3 := h 3 (by omega)
  simp [s4] at h0 h1 h2 h3 ⊢
  by_cases e : 0 < a + b + c + d
  · exact e
  · exfalso; apply hz
    have : a = 0 ∧ b = 0 ∧ c = 0 ∧ d = 0 := ⟨by omega, by omega, by omega, by omega⟩
    obtain ⟨rfl, rfl, rfl, rfl⟩ := this
    rfl
set_option maxRecDepth 100000 in
set_option maxHeartbeats 2000000 in
theorem large_main (n : Int) (X : List Int) (w : World) (hX : X.length = 4) (hz : Hid (X ≠ Z4)) (hn1 : -9223372036854775808 ≤ n) (hnm : n ≤ 9223372036854775807) (hb : Hid (∀ i, i < 4 → -9223372036854775808 ≤ X.getD i 0 ∧ X.getD i 0 ≤ 9223372036854775807)) :
    Calls Trym.prog 3 #[.int .i64 n, .agg (i64s X).toArray] w fun e w' => e = .returned (.bool true) ∧ Below w.heap.size w w' := by
  have HX : Hid (X.length = 4) := hX
  clear hX
  go_enter Trym.func3, Trym.ntmps3
  go_upto_region 1 with fail
  obtain ⟨V, hV⟩ : ∃ V, V = w.alloc (.cells (i64s X).toArray 22) := ⟨_, rfl⟩
  rw [← hV]
  have HV3 : Hid (Rw V w.heap.size 22 X) := by rw [hV]; exact Rw.new _ _ _
  have HVB : Hid (Below w.heap.size w V) := by rw [hV]; exact (Below.refl _ _).alloc (Nat.le_refl _) _
  clear hV
  go_cut [36] from 19 to 35 (fun s wx => V = wx ∧ s = .bool false)
  case first =>
    obtain ⟨a, ha⟩ : ∃ a, a = X.getD 0 0 := ⟨_, rfl⟩
    obtain ⟨b, hb'⟩ : ∃ a, a = X.getD 1 0 := ⟨_, rfl⟩
    obtain ⟨c, hc⟩ : ∃ a, a = X.getD 2 0 := ⟨_, rfl⟩
    obtain ⟨d, hd⟩ : ∃ a, a = X.getD 3 0 := ⟨_, rfl⟩
    have c0 : V.cell? ⟨w.heap.size, 0, none⟩ = some (.int .i64 a) := by rw [ha]; exact HV3.out.cell 0 (by rw [HX.out]; omega)
    have c1 : V.cell? ⟨w.heap.size, 1, none⟩ = some (.int .i64 b) := by rw [hb']; exact HV3.out.cell 1 (by rw [HX.out]; omega)
    have c2 : V.cell? ⟨w.heap.size, 2, none⟩ = some (.int .i64 c) := by rw [hc]; exact HV3.out.cell 2 (by rw [HX.out]; omega)
    have c3 : V.cell? ⟨w.heap.size, 3, none⟩ = some (.int .i64 d) := by rw [hd]; exact HV3.out.cell 3 (by rw [HX.out]; omega)
    have hnz : Hid (¬ (a = 0 ∧ b = 0 ∧ c = 0 ∧ d = 0)) := by
      intro h
      apply hz.out
      obtain ⟨x0, x1, x2, x3, rfl⟩ := four_of HX.out
      rw [ha, hb', hc, hd] at h
      simp at h
      obtain ⟨rfl, rfl, rfl, rfl⟩ := h
      rfl
    clear ha hb' hc hd
    by_cases h0 : a = 0
    · have e0 : (a == 0) = true := by simpa using h0
      by_cases h1 : b = 0
      · have e1 : (b == 0) = true := by simpa using h1
        by_cases h2 : c = 0
        · have e2 : (c == 0) = true := by simpa using h2
          have h3 : ¬ d = 0 := fun h => hnz.out ⟨h0, h1, h2, h⟩
          have e3 : (d == 0) = false := by simpa using h3
          clear h0 h1 h2 h3
          go_wp2
          go_meet
          exact ⟨rfl, rfl⟩
        · have e2 : (c == 0) = false := by simpa using h2
          clear h0 h1 h2
          go_wp2
          go_meet
          exact ⟨rfl, rfl⟩
      · have e1 : (b == 0) = false := by simpa using h1
        clear h0 h1
        go_wp2
        go_meet
        exact ⟨rfl, rfl⟩
    · have e0 : (a == 0) = false := by simpa using h0
      clear h0
      go_wp2
      go_meet
      exact ⟨rfl, rfl⟩
  case rest =>
  obtain ⟨hw, rfl⟩ := hcut
  subst hw
  by_cases hn : n < 0
  · go_wp2
    go_ret
    exact ⟨rfl, HVB.out⟩
  · have hn0 : 0 ≤ n := by omega
    go_wp2
    go_loop [7, 8] (fun t i => ∃ k : Nat, k ≤ 4 ∧ i = .int .i64 k ∧ t = .int .i64 (ps X k) ∧ Hid ((∀ j, j < k → 0 ≤ X.getD j 0) ∧ 0 ≤ ps X k ∧ ps X k ≤ 9223372036854775807)) (fun _ i => 4 - (intOf i).toNat)
    case atStart => exact ⟨0, by omega, rfl, rfl, fun j hj => by omega, by simp [ps], by simp [ps]⟩
    case round =>
      obtain ⟨k, hk, rfl, rfl, HR⟩ := hrel
      by_cases hlt : k < 4
      · have hxb := hb.out k hlt
        obtain ⟨x, hx⟩ : ∃ x, x = X.getD k 0 := ⟨_, rfl⟩
        obtain ⟨s, hs⟩ : ∃ s, s = ps X k := ⟨_, rfl⟩
        have hc : V.cell? ⟨w.heap.size, k, none⟩ = some (.int .i64 x) := by rw [hx]; exact HV3.out.cell k (by rw [HX.out]; exact hlt)
        rw [← hx] at hxb
        have hs0 : 0 ≤ s := by rw [hs]; exact HR.out.2.1
        have hs1 : s ≤ 9223372036854775807 := by rw [hs]; exact HR.out.2.2
        rw [← hs]
        have HSX : Hid (s + x = ps X (k + 1) ∧ x = X.getD k 0) := ⟨by rw [hs, hx]; rfl, hx⟩
        clear hs hx
        by_cases hneg : x < 0
        · go_wp2
          go_ret
          exact ⟨rfl, HVB.out⟩
        · by_cases hbig : 9223372036854775807 - s < x
          · go_wp2
            go_ret
            exact ⟨rfl, HVB.out⟩
          · go_wp2
            go_round
            case rel =>
              refine ⟨k + 1, by omega, by go_num, by rw [← HSX.out.1], fun j hj => ?_, by rw [← HSX.out.1]; omega, by rw [← HSX.out.1]; omega⟩
              by_cases e : j = k
              · subst e; rw [← HSX.out.2]; omega
              · exact HR.out.1 j (by omega)
            case measure => simp [intOf]; omega
      · obtain rfl : k = 4 := by omega
        clear hlt hk
        obtain ⟨T, hT⟩ : ∃ T, T = ps X 4 := ⟨_, rfl⟩
        rw [← hT]
        have HP : Hid (Pre n T X) := ⟨HX.out, HR.out.1, by rw [hT, ps_four], by rw [hT, ps_four]; exact pos_of HX.out hz.out HR.out.1, hn0⟩
        have hTm : T ≤ 9223372036854775807 := by rw [hT]; exact HR.out.2.2
        have hT0 := HP.out.hT
        clear hT HR
        go_wp2
        go_loop [9] (fun i => ∃ k : Nat, k ≤ 4 ∧ i = .int .i64 k ∧ Hid (∀ j, j < k → n * X.getD j 0 ≤ 9223372036854775807)) (fun i => 4 - (intOf i).toNat)
        case atStart => exact ⟨0, by omega, rfl, fun j hj => by omega⟩
        case round =>
          obtain ⟨k, hk, rfl, HM⟩ := hrel
          by_cases hlt : k < 4
          · have hx0 := HP.out.pos k hlt
            have hxb := hb.out k hlt
            obtain ⟨x, hx⟩ : ∃ x, x = X.getD k 0 := ⟨_, rfl⟩
            have hc : V.cell? ⟨w.heap.size, k, none⟩ = some (.int .i64 x) := by rw [hx]; exact HV3.out.cell k (by rw [HX.out]; exact hlt)
            rw [← hx] at hx0 hxb
            have HXE : Hid (x = X.getD k 0) := hx
            clear hx
            by_cases hpos : 0 < x
            · have hq0 : 0 ≤ 9223372036854775807 / x := Int.ediv_nonneg (by omega) hx0
              have hq1 : 9223372036854775807 / x ≤ 9223372036854775807 := Int.ediv_le_self _ (by omega)
              by_cases hbig : 9223372036854775807 / x < n
              · go_wp2
                go_ret
                exact ⟨rfl, HVB.out⟩
              · have HN : Hid (n * x ≤ 9223372036854775807) := (Int.le_ediv_iff_mul_le hpos).1 (by omega)
                go_wp2
                go_round
                case rel =>
                  refine ⟨k + 1, by omega, by go_num, fun j hj => ?_⟩
                  by_cases e : j = k
                  · subst e; rw [← HXE.out]; exact HN.out
                  · exact HM.out j (by omega)
                case measure => simp [intOf]; omega
            · have HN : Hid (n * x ≤ 9223372036854775807) := by
                have : x = 0 := by omega
                show n * x ≤ 9223372036854775807
                rw [this, Int.mul_zero]; omega
              go_wp2
              go_round
              case rel =>
                refine ⟨k + 1, by omega, by go_num, fun j hj => ?_⟩
                by_cases e : j = k
                · subst e; rw [← HXE.out]; exact HN.out
                · exact HM.out j (by omega)
              case measure => simp [intOf]; omega
          · obtain rfl : k = 4 := by omega
            clear hlt hk
            go_wp2_with (refine wpList_load_part (by rfl) 22 (.tmp 3) rfl w.heap.size 0 rfl 22 _ _ (i64s X) _ HV3.out.load (fun j _ => by simp) Trym.underlying22 rfl (sz22 HX.out) ?_)
            refine (zz_good n T X _ HP.out HM.out hTm hnm).mono ?_
            rintro e w5 ⟨S, rfl, hGS, hb5⟩
            have HG : Hid (Ham.Good n T X S) := hGS
            have HWB : Hid (Below w.heap.size w w5) := HVB.out.trans (hb5.mono HVB.out.size)
            have HW3 : Hid (Rw w5 w.heap.size 22 X) := HV3.out.later hb5 HV3.out.lt
            clear hGS hb5
            obtain ⟨wf, hwf⟩ : ∃ wf, wf = w5.alloc (.cells (i64s S).toArray 22) := ⟨_, rfl⟩
            have HWF : Hid ((w5.alloc (.cells (i64s Z4).toArray 22)).setRow w5.heap.size (i64s S).toArray = wf) := by rw [hwf]; exact setRow_alloc_at _ _ _ _
            have HLS : Hid ((i64s Z4).length = (i64s S).length) := by show (i64s Z4).length = (i64s S).length; rw [i64s_len S, HG.out.len]; rfl
            have HF3 : Hid (Rw wf w.heap.size 22 X) := by rw [hwf]; exact HW3.out.alloc _
            have HF10 : Hid (Rw wf w5.heap.size 22 S) := by rw [hwf]; exact Rw.new _ _ _
            have HFB : Hid (Below w.heap.size w wf) := by rw [hwf]; exact HWB.out.alloc HWB.out.size _
            have HFS : Hid (wf.heap.size = w5.heap.size + 1) := by rw [hwf]; exact (by simp : (w5.alloc (.cells (i64s S).toArray 22)).heap.size = w5.heap.size + 1)
            have HWS : Hid (w.heap.size < w5.heap.size) := HW3.out.lt
            clear hwf
            go_upto_region 27 with (refine store_row (w' := wf) (by rfl) 22 (.tmp 10) (.tmp 96) rfl w5.heap.size (i64s S) rfl rfl 22 (i64s Z4) (heap_alloc_new _ _) (sz22 HG.out.len) HLS.out (i64s_one _) HWF.out rfl ?_)
            go_upto_region 29 with fail
            obtain ⟨ga, hga⟩ : ∃ g, g = w5.heap.size := ⟨_, rfl⟩
            obtain ⟨gb, hgb⟩ : ∃ g, g = wf.heap.size := ⟨_, rfl⟩
            obtain ⟨U, hU⟩ : ∃ U, U = (wf.alloc (.cells #[.int .i64 0, .int .i64 0, .int .i64 0, .int .i64 0] 22)).alloc (.cells #[.bool false, .bool false, .bool false, .bool false] 24) := ⟨_, rfl⟩
            rw [← hU, ← hga, ← hgb]
            have HGS : Hid (w.heap.size < ga ∧ ga < gb) := by rw [hga, hgb]; have h1 := HFS.out; have h2 := HWS.out; exact ⟨by omega, by omega⟩
            have HU3 : Hid (Rw U w.heap.size 22 X) := by rw [hU]; exact (HF3.out.alloc _).alloc _
            have HU10 : Hid (Rw U ga 22 S) := by rw [hU, hga]; exact (HF10.out.alloc _).alloc _
            have HU11 : Hid (Rw U gb 22 Z4) := by rw [hU, hgb]; exact heap_alloc2_old _ _ _
            have HU12 : Hid (Bw U (gb + 1) 24 [false, false, false, false]) := by rw [hU, hgb]; exact heap_alloc2_new _ _ _
            have HUB : Hid (Below w.heap.size w U) := by rw [hU]; exact (HFB.out.alloc HFB.out.size _).alloc (by simp; have := HFB.out.size; omega) _
            clear hU hga hgb HF3 HF10 HFB HFS HWF HLS HW3 HWB HWS
            go_wp2
            go_loopw [13, 14] (fun t i wr => ∃ k : Nat, k ≤ 4 ∧ i = .int .i64 k ∧ t = .int .i64 (ps S k) ∧ Hid (Rw wr w.heap.size 22 X ∧ Rw wr ga 22 S ∧ Rw wr gb 22 (fr n T X k) ∧ Bw wr (gb + 1) 24 (fb n T X S k) ∧ Below w.heap.size w wr)) (fun _ i _ => 4 - (intOf i).toNat)
            case atStart => exact ⟨0, by omega, rfl, rfl, HU3.out, HU10.out, HU11.out, HU12.out, HUB.out⟩
            case round =>
              clear HU3 HU10 HU11 HU12 HUB
              obtain ⟨k, hk, rfl, rfl, HR⟩ := hrel
              by_cases hlt : k < 4
              · have hps := good_ps HG.out HP.out (k + 1) (by omega)
                have hps0 := good_ps HG.out HP.out k hk
                have hle := good_le HG.out HP.out k hlt
                have e : ps S (k + 1) = ps S k + S.getD k 0 := rfl
                have hqr := qr HP.out k hlt
                have hm := HM.out k hlt
                have hm0 : 0 ≤ n * X.getD k 0 := Int.mul_nonneg hn0 (HP.out.pos k hlt)
                have heach := HG.out.each k hlt
                have hcX := HR.out.1.cell k (by rw [HX.out]; exact hlt)
                have hcS := HR.out.2.1.cell k (by rw [HG.out.len]; exact hlt)
                have hcR := HR.out.2.2.1.cell k (by exact hlt)
                have hfR := HR.out.2.2.1.frozen k
                have hcB := HR.out.2.2.2.1.cell k (by exact hlt)
                have hfB := HR.out.2.2.2.1.frozen k
                obtain ⟨x, hx⟩ : ∃ x, x = X.getD k 0 := ⟨_, rfl⟩
                obtain ⟨g, hg⟩ : ∃ g, g = S.getD k 0 := ⟨_, rfl⟩
                obtain ⟨s, hs⟩ : ∃ s, s = ps S k := ⟨_, rfl⟩
                have hq : q n T X k = n * x / T := by rw [hx]; rfl
                have hr : r n T X k = n * x % T := by rw [hx]; rfl
                rw [e] at hps
                rw [← hx] at hm hm0 hcX
                rw [← hg] at hle hps heach hcS
                rw [← hs] at hps hps0
                rw [hq] at heach hqr
                rw [hr] at hqr
                rw [← hs]
                have HPS : Hid (s + g = ps S (k + 1)) := by rw [hs, hg]; rfl
                have HQ2 : Hid (n * x / T = q n T X k ∧ n * x % T = r n T X k ∧ g = S.getD k 0) := ⟨hq.symm, hr.symm, hg⟩
                have hqr1 := hqr.2.1
                have hqr2 := hqr.2.2
                clear hqr e hq hr hs hx hg
                have hgab : ga < gb := HGS.out.2
                rcases heach with hgq | hgq
                · have e1 : (g == n * x / T) = true := by simpa using hgq
                  have HD : Hid (false = decide (S.getD k 0 = q n T X k + 1)) := by
                    show false = decide (S.getD k 0 = q n T X k + 1)
                    rw [← HQ2.out.1, ← HQ2.out.2.2]; symm; simp; omega
                  clear hgq
                  go_wp2
                  go_roundw
                  case rel =>
                    refine ⟨k + 1, by omega, by go_num, by rw [← HPS.out], ?_, ?_, ?_, ?_, ?_⟩
                    · exact (HR.out.1.setOther _ _ _ (by have := HGS.out; omega)).setOther _ _ _ (by have := HGS.out; omega)
                    · exact (HR.out.2.1.setOther _ _ _ (by have := HGS.out; omega)).setOther _ _ _ (by have := HGS.out; omega)
                    · have h := (HR.out.2.2.1.setSame k (n * x % T)).setOther (gb + 1) k (.bool false) (by omega)
                      rw [HQ2.out.2.1, fr_set n T X k hlt, ← HQ2.out.2.1] at h
                      exact h
                    · have h := (HR.out.2.2.2.1.setOther gb k (.int .i64 (n * x % T)) (by omega)).setSame k false
                      rw [show (fb n T X S k).set k false = fb n T X S (k + 1) from by rw [HD.out]; exact fb_set n T X S k hlt] at h
                      exact h
                    · exact (HR.out.2.2.2.2.setCell (by have := HGS.out; exact (by omega : w.heap.size ≤ gb)) _).setCell (by have := HGS.out; exact (by omega : w.heap.size ≤ gb + 1)) _
                  case measure => simp [intOf]; omega
                · have e1 : (g == n * x / T) = false := by simp; omega
                  have e2 : (g == n * x / T + 1) = true := by simpa using hgq
                  have HD : Hid (true = decide (S.getD k 0 = q n T X k + 1)) := by
                    show true = decide (S.getD k 0 = q n T X k + 1)
                    rw [← HQ2.out.1, ← HQ2.out.2.2]; symm; simpa using hgq
                  have hq1 : n * x / T + 1 ≤ 9223372036854775807 := by omega
                  clear hgq
                  go_wp2
                  go_roundw
                  case rel =>
                    refine ⟨k + 1, by omega, by go_num, by rw [← HPS.out], ?_, ?_, ?_, ?_, ?_⟩
                    · exact (HR.out.1.setOther _ _ _ (by have := HGS.out; omega)).setOther _ _ _ (by have := HGS.out; omega)
                    · exact (HR.out.2.1.setOther _ _ _ (by have := HGS.out; omega)).setOther _ _ _ (by have := HGS.out; omega)
                    · have h := (HR.out.2.2.1.setSame k (n * x % T)).setOther (gb + 1) k (.bool true) (by omega)
                      rw [HQ2.out.2.1, fr_set n T X k hlt, ← HQ2.out.2.1] at h
                      exact h
                    · have h := (HR.out.2.2.2.1.setOther gb k (.int .i64 (n * x % T)) (by omega)).setSame k true
                      rw [show (fb n T X S k).set k true = fb n T X S (k + 1) from by rw [HD.out]; exact fb_set n T X S k hlt] at h
                      exact h
                    · exact (HR.out.2.2.2.2.setCell (by have := HGS.out; exact (by omega : w.heap.size ≤ gb)) _).setCell (by have := HGS.out; exact (by omega : w.heap.size ≤ gb + 1)) _
                  case measure => simp [intOf]; omega
              · obtain rfl : k = 4 := by omega
                clear hlt hk
                have e : ps S 4 = n := by rw [ps_four]; exact HG.out.tot
                rw [e]
                clear e
                obtain ⟨wo, hwo⟩ : ∃ wo, wo = wr := ⟨_, rfl⟩
                subst hwo
                go_wp2
                go_loopw [17] (fun i wx => ∃ a nd : Nat, a ≤ 4 ∧ i = .int .i64 a ∧ wx = wo.drewN nd) (fun i _ => 4 - (intOf i).toNat)
                case atStart => exact ⟨0, 0, by omega, rfl, rfl⟩
                case round =>
                  obtain ⟨a, nd, ha, rfl, rfl⟩ := hrel
                  by_cases hlt : a < 4
                  · have hai : (a : Int) < 4 := by omega
                    go_wp2
                    go_loopw [18] (fun j wx => ∃ c nd : Nat, c ≤ 4 ∧ j = .int .i64 c ∧ wx = wo.drewN nd) (fun j _ => 4 - (intOf j).toNat)
                    case atStart => exact ⟨0, nd, by omega, rfl, rfl⟩
                    case round =>
                      obtain ⟨c, nd, hc, rfl, rfl⟩ := hrel
                      by_cases hct : c < 4
                      · have hci : (c : Int) < 4 := by omega
                        have hBa := HR.out.2.2.2.1.cell a (by exact hlt)
                        have hBc := HR.out.2.2.2.1.cell c (by exact hct)
                        have hRa := HR.out.2.2.1.cell a (by exact hlt)
                        have hRc := HR.out.2.2.1.cell c (by exact hct)
                        rw [fb_at n T X S a hlt] at hBa
                        rw [fb_at n T X S c hct] at hBc
                        rw [fr_at n T X a hlt] at hRa
                        rw [fr_at n T X c hct] at hRc
                        have hord := HG.out.ord a hlt c hct
                        have heach := HG.out.each c hct
                        obtain ⟨ra, hra⟩ : ∃ x, x = r n T X a := ⟨_, rfl⟩
                        obtain ⟨rc, hrc⟩ : ∃ x, x = r n T X c := ⟨_, rfl⟩
                        rw [← hra] at hRa hord
                        rw [← hrc] at hRc hord
                        by_cases h1 : S.getD a 0 = q n T X a + 1
                        · rw [decide_eq_true h1] at hBa
                          by_cases h2 : S.getD c 0 = q n T X c + 1
                          · rw [decide_eq_true h2] at hBc
                            clear hord heach h1 h2 hra hrc
                            go_wp2
                            go_roundw
                            case rel => exact ⟨c + 1, nd, by omega, by go_num, rfl⟩
                            case measure => simp [intOf]; omega
                          · rw [decide_eq_false h2] at hBc
                            have ho := hord h1 (heach.resolve_right h2)
                            clear hord heach h1 h2 hra hrc
                            have hd1 : decide (ra < rc) = false := by simp; omega
                            rcases ho with ho | ho
                            · have hd2 : (ra == rc) = false := by simp; omega
                              clear ho
                              go_wp2
                              go_quiet (fail)
                              go_wp2
                              go_roundw
                              case rel => exact ⟨c + 1, nd + nq, by omega, by go_num, by simp⟩
                              case measure => simp [intOf]; omega
                            · obtain ⟨ho1, ho2⟩ := ho
                              have hd2 : (ra == rc) = true := by simp; omega
                              have hd3 : decide ((c : Int) < (a : Int)) = false := by simp; omega
                              clear ho1
                              go_wp2
                              go_quiet (fail)
                              go_wp2
                              go_roundw
                              case rel => exact ⟨c + 1, nd + nq, by omega, by go_num, by simp⟩
                              case measure => simp [intOf]; omega
                        · rw [decide_eq_false h1] at hBa
                          clear hord heach h1 hra hrc
                          go_wp2
                          go_roundw
                          case rel => exact ⟨c + 1, nd, by omega, by go_num, rfl⟩
                          case measure => simp [intOf]; omega
                      · go_wp2
                        go_roundw
                        case rel => exact ⟨a + 1, nd, by omega, by go_num, rfl⟩
                        case measure => simp [intOf]; omega
                  · go_wp2
                    go_ret
                    exact ⟨rfl, below_drewN HR.out.2.2.2.2 nd⟩
end Go.Proofs.Qxb6604086aMods
