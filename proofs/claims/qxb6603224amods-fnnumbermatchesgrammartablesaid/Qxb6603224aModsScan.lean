import Derived.Test.Qxb6603224aModsParse
import Derived.Test.Qxb6603224aModsZZ
import Derived.Test.Qxb6603224aModsClone
namespace Go.Proofs.Qxb6603224aMods
open Go.RowKit Plain
theorem Filled.later {w w' : World} {B len : Nat} {f : Nat → Int} (h : Filled w B len f) (hb : Below w.heap.size w w') (hB : B < w.heap.size) : Filled w' B len f := fun j hj =>
  ⟨(hb.cell (p := ⟨B, j, none⟩) hB).trans (h j hj).1, (hb.frozen (p := ⟨B, j, none⟩) hB).trans (h j hj).2⟩
theorem Filled.zero {w : World} {B len : Nat} {f : Nat → Int} (h : Filled w B len f) : ∀ j, j < len → w.cell? ⟨B, 0 + j, none⟩ = some (.int .u8 (f j)) := fun j hj => by rw [Nat.zero_add]; exact (h j hj).1
theorem getD_take (zs : List Int) (k j : Nat) (h : j < k) : (zs.take k).getD j 0 = zs.getD j 0 := by
  rw [List.getD_eq_getElem?_getD, List.getD_eq_getElem?_getD, List.getElem?_take, if_pos h]
theorem fst1_start (c : Int) : (fst1 c = 10 ∧ c = 45) ∨ (fst1 c = 11 ∧ c = 48) ∨ (fst1 c = 12 ∧ 48 < c ∧ c ≤ 57) ∨ (c ≠ 45 ∧ ¬ (48 ≤ c ∧ c ≤ 57)) := by
  unfold fst1; repeat' split
  all_goals omega
set_option maxRecDepth 100000 in
set_option maxHeartbeats 1000000 in
theorem scan_main (b off len cap : Nat) (zs : List Int) (w : World) (hz : zs.length = len) (h0 : 0 < len) (hl : len ≤ 65536) (hb : b < w.heap.size) (hc : ∀ j, j < len → w.cell? ⟨b, off + j, none⟩ = some (.int .u8 (zs.getD j 0)))
    (c0 : Int) (hc0 : c0 = zs.getD 0 0) (hs : fst1 c0 ≠ 0) :
    Calls Trym.prog 4 #[.slice (some ⟨b, off, none⟩) len cap] w fun e w' => e = .returned (.bool true) ∧ Below w.heap.size w w' := by
  have hcell : w.cell? ⟨b, off, none⟩ = some (.int .u8 c0) := by rw [hc0]; exact hc 0 h0
  have HC0 : Hid (c0 = zs.getD 0 0) := hc0
  have HZ : Hid (zs.length = len) := hz
  have HCS : Hid (∀ j, j < len → w.cell? ⟨b, off + j, none⟩ = some (.int .u8 (zs.getD j 0))) := hc
  have HD1 : Hid (dst (zs.take 1) = fst1 c0) := by
    show dst (zs.take 1) = fst1 c0
    rw [dst_take1 zs (by omega), hc0, List.getD_eq_getElem?_getD]
  clear hc0 hz hc
  have hbig : decide (len ≤ 1048576) = true := by simp; omega
  have hl16 : decide (65536 < (len : Int)) = false := by simp; omega
  have hlen0 : ((len : Int) == 0) = false := by simp; omega
  have key : ∃ t1 : Bool, (c0 == 45) = t1 ∧ (t1 = false → dg c0 = true) := by
    refine ⟨_, rfl, fun h => ?_⟩
    have h' : ¬ c0 = 45 := by simpa using h
    rcases fst1_start c0 with h | h | h | h
    · exact absurd h.2 h'
    · simp [dg]; omega
    · simp [dg]; omega
    · exfalso; apply hs; unfold fst1; rw [if_neg h.1, if_neg (by omega), if_neg h.2]
  obtain ⟨t1, e45, edg⟩ := key
  go_enter Trym.func4, Trym.ntmps4
  go_upto_region 7 with (go_at_call 10; refine (bytes4_any _ _ _ _ (by omega)).mono ?_; rintro e w1 ⟨rfl, hw⟩; subst w1)
  go_cut [40] from 30 to 39 (fun s wx => wx = w ∧ s = .bool false)
  case first =>
    cases t1
    case true =>
      clear edg
      go_wp2
      go_meet
      exact ⟨rfl, rfl⟩
    case false =>
      have hdg := edg rfl
      clear edg
      go_wp2_with (go_at_call 11; refine (isDigit_any _ _).mono ?_; rintro e w1 ⟨rfl, hw⟩; subst w1)
      go_meet
      exact ⟨rfl, rfl⟩
  case rest =>
  obtain ⟨hw, rfl⟩ := hcut
  subst hw
  clear edg e45 hbig hlen0 hcell
  clear t1
  obtain ⟨wz, hwz⟩ : ∃ wz, wz = wc := ⟨_, rfl⟩
  subst hwz
  go_wp2_with (go_at_call 6; refine (clone_any b off len cap zs _ (by omega) HCS.out (fun _ => hb)).mono ?_)
  rintro e w1 ⟨rfl, hbel, hsz, hfil⟩
  have HFIL : Hid (Filled w1 wz.heap.size len (fun j => zs.getD j 0)) := hfil
  have hcell : w1.cell? ⟨wz.heap.size, 0, none⟩ = some (.int .u8 c0) := by rw [HC0.out]; exact (hfil 0 h0).1
  clear hfil HCS hb
  go_upto_if 46 with fail
  go_cut [3] from 43 to 50 (fun s wx => wx = w1 ∧ s = .int .u8 (fst1 c0))
  case first =>
    rcases fst1_start c0 with h | h | h | h
    · have e1 : (c0 == 45) = true := by simpa using h.2
      have HF : Hid (fst1 c0 = 10) := h.1
      clear h HC0 HD1 hs
      go_wp2
      go_meet
      exact ⟨rfl, by rw [HF.out]⟩
    · have e1 : (c0 == 45) = false := by simp; omega
      have e2 : (c0 == 48) = true := by simpa using h.2
      have HF : Hid (fst1 c0 = 11) := h.1
      clear h HC0 HD1 hs
      go_wp2
      go_meet
      exact ⟨rfl, by rw [HF.out]⟩
    · have e1 : (c0 == 45) = false := by simp; omega
      have e2 : (c0 == 48) = false := by simp; omega
      have HF : Hid (fst1 c0 = 12) := h.1
      clear h HC0 HD1 hs
      go_wp2
      go_meet
      exact ⟨rfl, by rw [HF.out]⟩
    · exfalso; apply hs; unfold fst1; rw [if_neg h.1, if_neg (by omega), if_neg h.2]
  case rest =>
  obtain ⟨hw, rfl⟩ := hcut
  subst hw
  obtain ⟨s0, hs0, hst0⟩ : ∃ s, fst1 c0 = s ∧ Hid (dst (zs.take 1) = s ∧ s ≠ 0) := ⟨_, rfl, HD1.out, hs⟩
  rw [hs0]
  clear hs0
  clear HC0 hs HD1 hcell
  go_wp2
  go_loopw [3, 4, 5, 6] (fun s3 s4 s5 s6 wr => ∃ (k : Nat) (st : Int), 1 ≤ k ∧ k ≤ len ∧ s3 = .int .u8 st ∧ s4 = .int .i64 (-1) ∧ s5 = .bool false ∧ s6 = .int .i64 k ∧ Hid (dst (zs.take k) = st ∧ st ≠ 0) ∧ Below wz.heap.size wz wr ∧ wz.heap.size < wr.heap.size ∧ Hid (Filled wr wz.heap.size len (fun j => zs.getD j 0))) (fun _ _ _ s6 _ => len + 1 - (intOf s6).toNat)
  case atStart => exact ⟨1, s0, by omega, by omega, rfl, rfl, rfl, rfl, hst0, hbel, hsz, HFIL⟩
  case round =>
    clear HFIL hst0 hsz hbel
    clear wc s0
    obtain ⟨k, st, hk1, hk2, rfl, rfl, rfl, rfl, HST, hbel, hsz, HFIL⟩ := hrel
    by_cases hlt : k < len
    · obtain ⟨c, hcd⟩ : ∃ c, c = zs.getD k 0 := ⟨_, rfl⟩
      have hcell : wr.cell? ⟨wz.heap.size, k, none⟩ = some (.int .u8 c) := by rw [hcd]; exact (HFIL.out k hlt).1
      obtain ⟨n, ok, hn⟩ : ∃ n ok, num st c = (n, ok) := ⟨_, _, rfl⟩
      have hzz := fun w => zz_any 0 st 0 c none 0 0 false ⟨#[]⟩ w
      simp only [hn] at hzz
      have HN : Hid (num st c = (n, ok)) := hn
      have HC : Hid (c = zs.getD k 0) := hcd
      clear hn hcd
      have hkl : ((k : Int) == (len : Int)) = false := by simp; omega
      cases ok
      case false =>
        have HE : Hid (cmp st = true ∧ dst zs = 0) := by
          obtain ⟨h1, h2⟩ := num_end st c (by rw [HN.out])
          exact ⟨h1, dead st HST.out.1 (by omega) (by have := HZ.out; omega) HC.out h2⟩
        go_wp2_with fail
        refine (hzz _).mono ?_
        rintro e w2 ⟨rfl, hb2⟩
        have HF2 : Hid (Filled w2 wz.heap.size len (fun j => zs.getD j 0)) := HFIL.out.later hb2 hsz
        have HB2 : Hid (Below wz.heap.size wz w2) := hbel.trans (hb2.mono (by omega))
        clear hb2 hcell hbel HFIL hsz hzz
        go_wp2_with fail
        refine (parse_any wz.heap.size 0 len len zs _ HZ.out h0 (by omega) HF2.out.zero).mono ?_
        rintro e w3 ⟨rfl, hw⟩
        subst w3
        rw [HE.out.2]
        go_wp2_with fail
        refine (parse_any wz.heap.size 0 k len (zs.take k) _ (by rw [List.length_take, HZ.out]; omega) (by omega) (by omega) (fun j hj => by rw [getD_take _ _ _ hj]; exact HF2.out.zero j (by omega))).mono ?_
        rintro e w3 ⟨rfl, hw⟩
        subst w3
        rw [HST.out.1]
        have hst : (st != 0) = true := by simpa using HST.out.2
        go_wp2_with fail
        refine (complete_any st _).mono ?_
        rintro e w3 ⟨rfl, hw⟩
        subst w3
        rw [HE.out.1]
        go_wp2
        go_ret
        exact ⟨rfl, HB2.out⟩
      case true =>
        by_cases hn0 : n = 0
        · have hnb : (n == 0) = true := by simpa using hn0
          have HE : Hid (dst zs = 0) := dead st HST.out.1 (by omega) (by have := HZ.out; omega) HC.out (by show (num st c).1 = 0; rw [HN.out]; exact hn0)
          clear hn0
          go_wp2_with fail
          refine (hzz _).mono ?_
          rintro e w2 ⟨rfl, hb2⟩
          have HF2 : Hid (Filled w2 wz.heap.size len (fun j => zs.getD j 0)) := HFIL.out.later hb2 hsz
          have HB2 : Hid (Below wz.heap.size wz w2) := hbel.trans (hb2.mono (by omega))
          clear hb2 hcell hbel HFIL hsz hzz
          go_wp2_with fail
          refine (parse_any wz.heap.size 0 len len zs _ HZ.out h0 (by omega) HF2.out.zero).mono ?_
          rintro e w3 ⟨rfl, hw⟩
          subst w3
          rw [HE.out]
          go_wp2
          go_ret
          exact ⟨rfl, HB2.out⟩
        · have hnb : (n == 0) = false := by simpa using hn0
          have HE : Hid (dst (zs.take (k + 1)) = n ∧ n ≠ 0) := ⟨next st n HST.out.1 (by omega) (by have := HZ.out; omega) HC.out (by show (num st c).1 = n; rw [HN.out]), hn0⟩
          clear hn0
          go_wp2_with fail
          refine (hzz _).mono ?_
          rintro e w2 ⟨rfl, hb2⟩
          have HF2 : Hid (Filled w2 wz.heap.size len (fun j => zs.getD j 0)) := HFIL.out.later hb2 hsz
          have HB2 : Hid (Below wz.heap.size wz w2) := hbel.trans (hb2.mono (by omega))
          have hsz2 : wz.heap.size < w2.heap.size := by have := hb2.size; omega
          clear hb2 hcell hbel HFIL hzz
          go_wp2
          go_roundw
          case rel => exact ⟨k + 1, n, by omega, by omega, rfl, rfl, rfl, by go_num, HE, HB2.out, hsz2, HF2⟩
          case measure => simp [intOf]; omega
    · have hkl : ((k : Int) == (len : Int)) = true := by simp; omega
      have HK : Hid (dst zs = st) := whole HZ.out HST.out.1 (by omega)
      have hst : (st != 0) = true := by simpa using HST.out.2
      have hzz := fun w => zz_any 0 st 0 32 none 0 0 false ⟨#[]⟩ w
      rcases num_space st with ⟨h2, hcm⟩ | ⟨h2, h1, hcm⟩
      · simp only [h2] at hzz
        clear h2
        obtain ⟨n, hn⟩ : ∃ n, n = (num st 32).1 := ⟨_, rfl⟩
        simp only [← hn] at hzz
        clear hn
        go_wp2_with fail
        refine (hzz _).mono ?_
        rintro e w2 ⟨rfl, hb2⟩
        have HF2 : Hid (Filled w2 wz.heap.size len (fun j => zs.getD j 0)) := HFIL.out.later hb2 hsz
        have HB2 : Hid (Below wz.heap.size wz w2) := hbel.trans (hb2.mono (by omega))
        clear hb2 hbel HFIL hsz hzz
        go_wp2_with fail
        refine (parse_any wz.heap.size 0 len len zs _ HZ.out h0 (by omega) HF2.out.zero).mono ?_
        rintro e w3 ⟨rfl, hw⟩
        subst w3
        rw [HK.out]
        go_wp2_with fail
        refine (complete_any st _).mono ?_
        rintro e w3 ⟨rfl, hw⟩
        subst w3
        rw [hcm]
        go_wp2_with fail
        refine (parse_any wz.heap.size 0 k len (zs.take k) _ (by rw [List.length_take, HZ.out]; omega) (by omega) (by omega) (fun j hj => by rw [getD_take _ _ _ hj]; exact HF2.out.zero j (by omega))).mono ?_
        rintro e w3 ⟨rfl, hw⟩
        subst w3
        rw [HST.out.1]
        go_wp2_with fail
        refine (complete_any st _).mono ?_
        rintro e w3 ⟨rfl, hw⟩
        subst w3
        rw [hcm]
        go_wp2
        go_ret
        exact ⟨rfl, HB2.out⟩
      · simp only [h2, h1] at hzz
        clear h2 h1
        go_wp2_with fail
        refine (hzz _).mono ?_
        rintro e w2 ⟨rfl, hb2⟩
        have HF2 : Hid (Filled w2 wz.heap.size len (fun j => zs.getD j 0)) := HFIL.out.later hb2 hsz
        have HB2 : Hid (Below wz.heap.size wz w2) := hbel.trans (hb2.mono (by omega))
        clear hb2 hbel HFIL hsz hzz
        go_wp2_with fail
        refine (parse_any wz.heap.size 0 len len zs _ HZ.out h0 (by omega) HF2.out.zero).mono ?_
        rintro e w3 ⟨rfl, hw⟩
        subst w3
        rw [HK.out]
        go_wp2_with fail
        refine (complete_any st _).mono ?_
        rintro e w3 ⟨rfl, hw⟩
        subst w3
        rw [hcm]
        go_wp2
        go_ret
        exact ⟨rfl, HB2.out⟩
end Go.Proofs.Qxb6603224aMods
