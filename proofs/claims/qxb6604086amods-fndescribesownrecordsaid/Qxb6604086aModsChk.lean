import Derived.Test.Qxb6604086aModsOwn
namespace Go.Proofs.Qxb6604086aMods
open Go.RowKit
/-- the head of a digest: its first k bytes, the rest nought -/
def hd (S : List Int) (k : Nat) : List Int := S.take k ++ Z.drop k
theorem hd_len (S : List Int) (k : Nat) (hS : S.length = 32) (hk : k ≤ 4) : (hd S k).length = 32 := by
  have : Z.length = 32 := rfl
  simp [hd, hS, this]; omega
theorem hd_zero (S : List Int) : hd S 0 = Z := rfl
theorem hd_four (S : List Int) (hS : S.length = 32) : (hd S 4).take 4 = S.take 4 := by
  unfold hd; rw [List.take_append_of_le_length (by simp; omega), List.take_take]
  rfl
theorem hd_set (S : List Int) (k : Nat) (hS : S.length = 32) (hk : k < 4) : (bys (hd S k)).set k (.int .u8 (S.getD k 0)) = bys (hd S (k + 1)) := by
  rw [bys_set]
  congr 1
  match S, hS with
  | s0 :: s1 :: s2 :: s3 :: Sr, _ =>
    match k, hk with
    | 0, _ => rfl
    | 1, _ => rfl
    | 2, _ => rfl
    | 3, _ => rfl
theorem below_setRow {B : Nat} {a w : World} (h : Below B a w) {g : Nat} (hg : B ≤ g) (c : Array Value) : Below B a (w.setRow g c) :=
  ⟨h.os, h.tape, h.output, by rw [setRow_size]; exact h.size, fun k hk => by rw [setRow_other w g k c (by omega)]; exact h.block k hk⟩
theorem take_set_lt (S : List Int) (i : Nat) (v : Int) (hS : S.length = 32) (hi : i < 4) (hv : v ≠ S.getD i 0) : (S.take 4 == (S.set i v).take 4) = false := by
  rw [List.take_set]
  apply set_ne (S.take 4) i v (by simp; omega)
  rw [List.getD_eq_getElem?_getD, List.getElem?_take, if_pos hi, ← List.getD_eq_getElem?_getD]
  exact hv
theorem take_set_ge (S : List Int) (i : Nat) (v : Int) (hi : ¬ i < 4) : (S.take 4 == (S.set i v).take 4) = true := by
  rw [List.take_set, List.set_eq_of_length_le (by simp; omega)]
  simp
set_option maxRecDepth 100000 in
set_option maxHeartbeats 1000000 in
theorem own_check (length other bit : Int) (S : List Int) (hS : S.length = 32) (hSb : Hid (∀ z ∈ S, (Lit.int .u8 z).wf = true)) (hb0 : 0 ≤ bit) (hb1 : bit ≤ 255) (w : World) :
    Calls Trym.prog 5 #[.int .u8 7, .int .i64 length, .int .i64 other, .agg (bys S).toArray, .int .u8 bit] w fun e w' => e = .returned (.bool true) ∧ Below w.heap.size w w' := by
  have HS : Hid (S.length = 32) := hS
  clear hS
  obtain ⟨A, hA⟩ : ∃ A, A = w.alloc (.cells (bys S).toArray 26) := ⟨_, rfl⟩
  have HAS : Hid (A.heap.size = w.heap.size + 1) := by rw [hA]; exact (by simp : (w.alloc (.cells (bys S).toArray 26)).heap.size = w.heap.size + 1)
  have HA0 : Hid (A.heap[w.heap.size]? = some (.cells (bys S).toArray 26 (0, 0))) := by rw [hA]; exact heap_alloc_new _ _
  have HAB : Hid (Below w.heap.size w A) := by rw [hA]; exact (Below.refl _ _).alloc (Nat.le_refl _) _
  go_enter Trym.func5, Trym.ntmps5
  go_upto_region 2 with fail
  rw [← hA]
  clear hA
  go_upto_region 4 with (first
    | (refine wpList_built rfl 32 _ rfl _ (built32 7) ?_)
    | (refine wpList_alloc (by rfl) 32 rfl (alloc32 _) ?_)
    | (refine wpList_store_all (w' := A.alloc (.cells (rec 7 Z 0).toArray 32)) (by rfl) 32 (.tmp 12) (.tmp 19) rfl A.heap.size (rec 7 Z 0) rfl rfl 32 (rec 0 Z 0) (heap_alloc_new _ _) info32 rfl (rec_one _ _ _) (setRow_alloc_at _ _ _ _) rfl ?_))
  obtain ⟨U, hU⟩ : ∃ U, U = A.alloc (.cells (rec 7 Z 0).toArray 32) := ⟨_, rfl⟩
  obtain ⟨a1, ha1⟩ : ∃ a1, a1 = A.heap.size := ⟨_, rfl⟩
  rw [← hU, ← ha1]
  have HUS : Hid (w.heap.size < a1 ∧ a1 < U.heap.size) := by
    have : U.heap.size = A.heap.size + 1 := by rw [hU]; simp
    have h2 := HAS.out
    exact ⟨by omega, by omega⟩
  have HU0 : Hid (U.heap[w.heap.size]? = some (.cells (bys S).toArray 26 (0, 0))) := by rw [hU]; exact (heap_alloc_old _ _ (by rw [HAS.out]; omega)).trans HA0.out
  have HU1 : Hid (U.heap[a1]? = some (.cells (rec 7 Z 0).toArray 32 (0, 0))) := by rw [hU, ha1]; exact heap_alloc_new _ _
  have HUB : Hid (Below w.heap.size w U) := by rw [hU]; exact HAB.out.alloc HAB.out.size _
  clear hU ha1 HAS HA0 HAB
  clear A
  go_wp2_with (refine wpList_alloc (by rfl) 26 rfl (alloc26 _) ?_)
  go_loopw [14] (fun i wr => ∃ k : Nat, k ≤ 4 ∧ i = .int .i64 k ∧ Hid (wr.heap[w.heap.size]? = some (.cells (bys S).toArray 26 (0, 0)) ∧ wr.heap[a1]? = some (.cells (rec 7 Z 0).toArray 32 (0, 0)) ∧ wr.heap[U.heap.size]? = some (.cells (bys (hd S k)).toArray 26 (0, 0)) ∧ Below w.heap.size w wr)) (fun i _ => 4 - (intOf i).toNat)
  case atStart =>
    exact ⟨0, by omega, rfl, (heap_alloc_old _ _ (by have := HUS.out; omega)).trans HU0.out, (heap_alloc_old _ _ HUS.out.2).trans HU1.out, heap_alloc_new _ _, HUB.out.alloc HUB.out.size _⟩
  case round =>
    clear HU0 HU1 HUB
    obtain ⟨k, hk, rfl, HR⟩ := hrel
    by_cases hlt : k < 4
    · have hc1 : wr.cell? ⟨w.heap.size, k, none⟩ = some (.int .u8 (S.getD k 0)) := by
        rw [cell_of_row _ _ k _ _ _ HR.out.1, List.getElem?_toArray]; exact bys_at S k (by have := HS.out; omega)
      have hc2 : wr.cell? ⟨U.heap.size, k, none⟩ = some (.int .u8 ((hd S k).getD k 0)) := by
        rw [cell_of_row _ _ k _ _ _ HR.out.2.2.1, List.getElem?_toArray]; exact bys_at _ k (by rw [hd_len S k HS.out (by omega)]; omega)
      have hc3 : wr.frozen? ⟨U.heap.size, k, none⟩ = false := by simp [World.frozen?, HR.out.2.2.1]
      go_wp2
      go_roundw
      case rel =>
        refine ⟨k + 1, by omega, by go_num, ?_, ?_, ?_, ?_⟩
        · rw [heap_setCell_other _ _ _ _ (by have := HUS.out; exact (by omega : w.heap.size ≠ U.heap.size))]; exact HR.out.1
        · rw [heap_setCell_other _ _ _ _ (by have := HUS.out; exact (by omega : a1 ≠ U.heap.size))]; exact HR.out.2.1
        · have h := heap_setCell_same wr U.heap.size k _ 26 (.int .u8 (S.getD k 0)) HR.out.2.2.1
          simp only [List.setIfInBounds_toArray, hd_set S k HS.out hlt] at h
          simpa using h
        · exact HR.out.2.2.2.setCell (by have := HUS.out; exact (by omega : w.heap.size ≤ U.heap.size)) _
      case measure => simp [intOf]; omega
    · obtain rfl : k = 4 := by omega
      clear hlt hk
      obtain ⟨H, hH⟩ : ∃ H, H = hd S 4 := ⟨_, rfl⟩
      have HH : Hid (H.length = 32 ∧ H.take 4 = S.take 4) := by rw [hH]; exact ⟨hd_len S 4 HS.out (by omega), hd_four S HS.out⟩
      rw [← hH] at HR
      clear hH
      have H26 : Hid ((Trym.prog.info? 26).map (·.size) = some (bys S).length) := by show (Trym.prog.info? 26).map (·.size) = some (bys S).length; rw [bys_len, HS.out]; exact info26
      have H26H : Hid ((Trym.prog.info? 26).map (·.size) = some (bys H).length) := by show (Trym.prog.info? 26).map (·.size) = some (bys H).length; rw [bys_len, HH.out.1]; exact info26
      have H30H : Hid ((Trym.prog.info? 30).map (·.size) = some (bys H).length) := by show (Trym.prog.info? 30).map (·.size) = some (bys H).length; rw [bys_len, HH.out.1]; exact info30
      have HZS : Hid ((bys Z).length = (bys H).length) := by show (bys Z).length = (bys H).length; rw [bys_len H, HH.out.1]; rfl
      have H32 : Hid ((Trym.prog.info? 32).map (·.size) = some (rec 7 H 0).length) := by show (Trym.prog.info? 32).map (·.size) = some (rec 7 H 0).length; rw [rec_len 7 H 0 HH.out.1]; exact info32
      go_upto_region 12 with (first
        | (refine wpList_load_part (by rfl) 26 (.tmp 13) rfl U.heap.size 0 rfl 26 _ _ (bys H) _ HR.out.2.2.1 (fun j _ => by simp) Trym.underlying26 rfl H26H.out ?_)
        | (refine wpList_store_part' (w' := wr.setRow a1 (rec 7 H 0).toArray) (by rfl) 30 (.tmp 31) (.tmp 30) rfl a1 4 (bys H) rfl rfl 32 [.int .u8 7, .slice none 0 0, .int .u64 0, .int .u64 0] (bys Z) [.int .i64 0, .int .i64 0] HR.out.2.1 rfl H30H.out HZS.out (bys_one _) rfl rfl ?_))
      obtain ⟨V, hV⟩ : ∃ V, V = wr.setRow a1 (rec 7 H 0).toArray := ⟨_, rfl⟩
      rw [← hV]
      have HV0 : Hid (V.heap[w.heap.size]? = some (.cells (bys S).toArray 26 (0, 0))) := by rw [hV]; exact (setRow_other _ _ _ _ (by have := HUS.out; omega)).trans HR.out.1
      have HV1 : Hid (V.heap[a1]? = some (.cells (rec 7 H 0).toArray 32 (0, 0))) := by rw [hV]; exact setRow_heap _ _ _ _ _ _ HR.out.2.1
      have HVB : Hid (Below w.heap.size w V) := by rw [hV]; exact below_setRow HR.out.2.2.2 (by have := HUS.out; omega) _
      have HVS : Hid (w.heap.size < V.heap.size ∧ a1 < V.heap.size) := ⟨(Array.getElem?_eq_some_iff.1 HV0.out).1, (Array.getElem?_eq_some_iff.1 HV1.out).1⟩
      have HEQ : Hid ((H.take 4 == S.take 4) = true) := by show (H.take 4 == S.take 4) = true; rw [HH.out.2]; simp
      clear hV HR HUS HZS H30H H26H
      go_wp2_with (first
        | (refine wpList_load_part (by rfl) 26 (.tmp 8) rfl w.heap.size 0 rfl 26 _ _ (bys S) _ HV0.out (fun j _ => by simp) Trym.underlying26 rfl H26.out ?_)
        | (refine wpList_load_part (by rfl) 32 (.tmp 12) rfl a1 0 rfl 32 _ _ (rec 7 H 0) _ HV1.out (fun j _ => by simp) Trym.underlying32 rfl H32.out ?_)
        | (go_at_call 7; refine (desc_check 0 length H S HH.out.1 HS.out _).mono ?_))
      rintro e w5 ⟨rfl, hb5⟩
      rw [HEQ.out]
      have HW0 : Hid (w5.heap[w.heap.size]? = some (.cells (bys S).toArray 26 (0, 0))) := (hb5.block _ HVS.out.1).trans HV0.out
      have HW1 : Hid (w5.heap[a1]? = some (.cells (rec 7 H 0).toArray 32 (0, 0))) := (hb5.block _ HVS.out.2).trans HV1.out
      have HWB : Hid (Below V.heap.size V w5) := hb5
      clear hb5
      go_wp2_with (first
        | (refine wpList_load_part (by rfl) 26 (.tmp 8) rfl w.heap.size 0 rfl 26 _ _ (bys S) _ HW0.out (fun j _ => by simp) Trym.underlying26 rfl H26.out ?_)
        | (refine wpList_load_part (by rfl) 32 (.tmp 12) rfl a1 0 rfl 32 _ _ (rec 7 H 0) _ HW1.out (fun j _ => by simp) Trym.underlying32 rfl H32.out ?_)
        | (go_at_call 7; refine (desc_check 0 other H S HH.out.1 HS.out _).mono ?_))
      rintro e w6 ⟨rfl, hb6⟩
      rw [HEQ.out]
      have HB6 : Hid (Below V.heap.size V w6) := HWB.out.trans (hb6.mono HWB.out.size)
      have HX0 : Hid (w6.heap[w.heap.size]? = some (.cells (bys S).toArray 26 (0, 0))) := (HB6.out.block _ HVS.out.1).trans HV0.out
      have HX1 : Hid (w6.heap[a1]? = some (.cells (rec 7 H 0).toArray 32 (0, 0))) := (HB6.out.block _ HVS.out.2).trans HV1.out
      clear hb6 HWB HW0 HW1
      have HZS : Hid ((bys Z).length = (bys S).length) := by show (bys Z).length = (bys S).length; rw [bys_len S, HS.out]; rfl
      go_upto_region 17 with (first
        | (refine wpList_load_part (by rfl) 26 (.tmp 8) rfl w.heap.size 0 rfl 26 _ _ (bys S) _ HX0.out (fun j _ => by simp) Trym.underlying26 rfl H26.out ?_)
        | (refine wpList_alloc (by rfl) 26 rfl (alloc26 _) ?_)
        | (refine wpList_store_all (w' := w6.alloc (.cells (bys S).toArray 26)) (by rfl) 26 (.tmp 15) (.tmp 52) rfl w6.heap.size (bys S) rfl rfl 26 (bys Z) (heap_alloc_new _ _) H26.out HZS.out (bys_one _) (setRow_alloc_at _ _ _ _) rfl ?_))
      obtain ⟨sv, hsv⟩ : ∃ sv, sv = S.getD (bit / 8).toNat 0 := ⟨_, rfl⟩
      have hidx : (bys S)[(bit / 8).toNat]? = some (.int .u8 sv) := by rw [hsv]; exact bys_at S _ (by have := HS.out; omega)
      have HSV : Hid (sv = S.getD (bit / 8).toNat 0) := hsv
      clear hsv
      have HNE : Hid (bits BinOp.xor IntKind.u8 sv (2 ^ (bit % 8).toNat % 256) ≠ sv) := by
        have hb := bounds_u8 (hSb.out (S.getD (bit / 8).toNat 0) (by have := HS.out; rw [List.getD_eq_getElem?_getD, List.getElem?_eq_getElem (by omega)]; exact List.getElem_mem _))
        rw [← HSV.out] at hb
        exact flip_ne sv _ hb.1 hb.2 (by omega)
      go_upto_region 18 with fail
      obtain ⟨v, hv⟩ : ∃ v, v = bits BinOp.xor IntKind.u8 sv (2 ^ (bit % 8).toNat % 256) := ⟨_, rfl⟩
      rw [← hv] at HNE
      rw [← hv, bys_set]
      obtain ⟨T, hT⟩ : ∃ T, T = S.set (bit / 8).toNat v := ⟨_, rfl⟩
      have HT : Hid ((H.take 4 == T.take 4) = decide (4 ≤ bit / 8) ∧ T.length = 32) := by
        rw [hT]
        refine ⟨?_, by simpa using HS.out⟩
        rw [HH.out.2]
        by_cases h4 : (bit / 8).toNat < 4
        · rw [take_set_lt S _ v HS.out h4 (by rw [← HSV.out]; exact HNE.out)]; simp; omega
        · rw [take_set_ge S _ v h4]; simp; omega
      rw [← hT]
      have H26T : Hid ((Trym.prog.info? 26).map (·.size) = some (bys T).length) := by show (Trym.prog.info? 26).map (·.size) = some (bys T).length; rw [bys_len, HT.out.2]; exact info26
      have HSZ : Hid (a1 < w6.heap.size) := Nat.lt_of_lt_of_le HVS.out.2 HB6.out.size
      have HY1 : Hid ((w6.alloc (.cells (bys T).toArray 26)).heap[a1]? = some (.cells (rec 7 H 0).toArray 32 (0, 0))) := (heap_alloc_old _ _ HSZ.out).trans HX1.out
      have HYB : Hid (Below w.heap.size w (w6.alloc (.cells (bys T).toArray 26))) := (HVB.out.trans (HB6.out.mono HVB.out.size)).alloc (Nat.le_trans HVB.out.size HB6.out.size) _
      clear hv hT HNE HSV hidx HX0 HX1 HZS HV0 HV1
      go_wp2_with (first
        | (refine wpList_load_part (by rfl) 26 (.tmp 15) rfl w6.heap.size 0 rfl 26 _ _ (bys T) _ (heap_alloc_new _ _) (fun j _ => by simp) Trym.underlying26 rfl H26T.out ?_)
        | (refine wpList_load_part (by rfl) 32 (.tmp 12) rfl a1 0 rfl 32 _ _ (rec 7 H 0) _ HY1.out (fun j _ => by simp) Trym.underlying32 rfl H32.out ?_)
        | (go_at_call 7; refine (desc_check 0 length H T HH.out.1 HT.out.2 _).mono ?_))
      rintro e w7 ⟨rfl, hb7⟩
      rw [HT.out.1]
      have HB7 : Hid (Below w.heap.size w w7) := HYB.out.trans (hb7.mono HYB.out.size)
      clear hb7
      by_cases h4 : 4 ≤ bit / 8
      · have e4 : decide (4 ≤ bit / 8) = true := by simpa using h4
        rw [e4]
        go_wp2
        go_ret
        exact ⟨rfl, HB7.out⟩
      · have e4 : decide (4 ≤ bit / 8) = false := by simpa using h4
        rw [e4]
        go_wp2
        go_ret
        exact ⟨rfl, HB7.out⟩
end Go.Proofs.Qxb6604086aMods
