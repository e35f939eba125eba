import Derived.Test.Qxb6603224aModsParse
import Derived.Test.Qxb6603224aModsZZ
import Derived.Test.Qxb6603224aModsClone
import Derived.Test.Qxb6603224aModsScan
namespace Go.Proofs.Qxb6603224aMods
open Go.RowKit Plain Go.Deep
/-- a shortest text that stands in the state -/
def rep (st : Int) : List Int :=
  if st = 10 then [45] else if st = 11 then [48] else if st = 12 then [49] else if st = 13 then [49, 46] else if st = 14 then [49, 46, 48] else if st = 15 then [49, 101] else if st = 16 then [49, 101, 43] else if st = 17 then [49, 101, 48] else []
theorem eight {st : Int} (h : 10 ≤ st ∧ st ≤ 17) : st = 10 ∨ st = 11 ∨ st = 12 ∨ st = 13 ∨ st = 14 ∨ st = 15 ∨ st = 16 ∨ st = 17 := by omega
theorem rep_dst {st : Int} (h : 10 ≤ st ∧ st ≤ 17) : dst (rep st) = st ∧ 1 ≤ (rep st).length ∧ (rep st).length ≤ 3 := by
  rcases eight h with rfl | rfl | rfl | rfl | rfl | rfl | rfl | rfl <;> decide
theorem num_model {st : Int} (h : 10 ≤ st ∧ st ≤ 17) (c : Int) : num st c = (if stp st c ≠ 0 then (stp st c, true) else (0, !cmp st)) := by
  unfold stp
  rcases eight h with rfl | rfl | rfl | rfl | rfl | rfl | rfl | rfl
  · rw [n10]; repeat' split
    all_goals (first | rfl | contradiction | simp_all)
  · rw [n11]; repeat' split
    all_goals (first | rfl | contradiction | simp_all)
  · rw [n12]; repeat' split
    all_goals (first | rfl | contradiction | simp_all)
  · rw [n13]; repeat' split
    all_goals (first | rfl | contradiction | simp_all)
  · rw [n14]; repeat' split
    all_goals (first | rfl | contradiction | simp_all)
  · rw [n15]; repeat' split
    all_goals (first | rfl | contradiction | simp_all)
  · rw [n16]; repeat' split
    all_goals (first | rfl | contradiction | simp_all)
  · rw [n17]; repeat' split
    all_goals (first | rfl | contradiction | simp_all)
theorem filled_new (w : World) (l : List Int) : Filled (w.alloc (.cells (l.map (Value.int .u8)).toArray 5)) w.heap.size l.length (fun j => l.getD j 0) := by
  intro j hj
  constructor
  · simp [go_sem, hj]
  · simp [go_sem]
theorem rep_any {st : Int} (h : 10 ≤ st ∧ st ≤ 17) (w : World) :
    Calls Trym.prog 15 #[.int .u8 st] w fun e w' => e = .returned (.slice (some ⟨w.heap.size, 0, none⟩) (rep st).length (rep st).length) ∧ w' = w.alloc (.cells ((rep st).map (Value.int .u8)).toArray 5) := by
  rcases eight h with rfl | rfl | rfl | rfl | rfl | rfl | rfl | rfl
  all_goals
    go_enter Trym.func15, Trym.ntmps15
    go_wp2
    go_ret
    exact ⟨rfl, rfl⟩
theorem rep_not {st : Int} (h : ¬ (10 ≤ st ∧ st ≤ 17)) (w : World) :
    Calls Trym.prog 15 #[.int .u8 st] w fun e w' => e = .returned (.slice none 0 0) ∧ w' = w := by
  have h0 : (st == 10) = false := by simp; omega
  have h1 : (st == 11) = false := by simp; omega
  have h2 : (st == 12) = false := by simp; omega
  have h3 : (st == 13) = false := by simp; omega
  have h4 : (st == 14) = false := by simp; omega
  have h5 : (st == 15) = false := by simp; omega
  have h6 : (st == 16) = false := by simp; omega
  have h7 : (st == 17) = false := by simp; omega
  go_enter Trym.func15, Trym.ntmps15
  go_wp2
  go_ret
  exact ⟨rfl, rfl⟩
theorem retM {st c a : Int} {b : Bool} (h : num st c = (a, b)) : Ending.returned (.tuple #[.int .u8 a, .bool b]) = .returned (.tuple #[.int .u8 (num st c).1, .bool (num st c).2]) := by rw [h]
theorem ext_at (R : List Int) (c : Int) (j : Nat) (hj : j < R.length + 1) : (R ++ [c]).getD j 0 = if j = R.length then c else if j < R.length then R.getD j 0 else 0 := by
  rw [List.getD_eq_getElem?_getD]
  by_cases e : j = R.length
  · subst e; simp
  · rw [if_neg e, if_pos (by omega), List.getElem?_append_left (by omega), List.getD_eq_getElem?_getD]
theorem model_not {st : Int} (c : Int) (h : ¬ (10 ≤ st ∧ st ≤ 17)) (w : World) :
    Calls Trym.prog 8 #[.int .u8 st, .int .u8 c] w fun e w' => e = .returned (.tuple #[.int .u8 (num st c).1, .bool (num st c).2]) ∧ Below w.heap.size w w' := by
  go_enter Trym.func8, Trym.ntmps8
  go_wp2_with (go_at_call 15; refine (rep_not h _).mono ?_; rintro e w1 ⟨rfl, hw⟩; subst w1)
  go_ret2
  exact ⟨retM (nnot st c h), Below.refl _ _⟩
set_option maxRecDepth 100000 in
set_option maxHeartbeats 1000000 in
theorem model_yes {st : Int} (c : Int) (h : 10 ≤ st ∧ st ≤ 17) (w : World) :
    Calls Trym.prog 8 #[.int .u8 st, .int .u8 c] w fun e w' => e = .returned (.tuple #[.int .u8 (num st c).1, .bool (num st c).2]) ∧ Below w.heap.size w w' := by
  obtain ⟨R, hR⟩ : ∃ R, R = rep st := ⟨_, rfl⟩
  have hrep := rep_any h w
  obtain ⟨hd, hn1, hn3⟩ := rep_dst h
  have hnum := num_model h c
  rw [← hR] at hrep hd hn1 hn3
  have HF0 : Hid (Filled (w.alloc (.cells (R.map (Value.int .u8)).toArray 5)) w.heap.size R.length (fun j => R.getD j 0)) := filled_new w R
  have HB0 : Hid (Below w.heap.size w (w.alloc (.cells (R.map (Value.int .u8)).toArray 5))) := (Below.refl _ _).alloc (Nat.le_refl _) _
  have hs0 : (w.alloc (.cells (R.map (Value.int .u8)).toArray 5)).heap.size = w.heap.size + 1 := by simp
  obtain ⟨w1, hw1⟩ : ∃ w1, w1 = w.alloc (.cells (R.map (Value.int .u8)).toArray 5) := ⟨_, rfl⟩
  rw [← hw1] at hrep HF0 HB0 hs0
  clear hw1
  obtain ⟨n, hn⟩ : ∃ n, R.length = n := ⟨_, rfl⟩
  rw [hn] at hrep HF0 hn1 hn3
  have HN : Hid (R.length = n) := hn
  have HD : Hid (dst R = st) := hd
  have HU : Hid (num st c = (if stp st c ≠ 0 then (stp st c, true) else (0, !cmp st))) := hnum
  clear hd hnum hn hR
  have hmk := run_make_row' (P := Trym.prog) 22 5 (.int .u8 0) 1 Trym.underlying22 info5 rfl .i64 .i64 (n + 1) (by omega) (by omega)
  rw [show ((n + 1 : Nat) : Int) = (n : Int) + 1 from by omega] at hmk
  have hne : ((n : Int) == 0) = false := by simp; omega
  go_enter Trym.func8, Trym.ntmps8
  go_wp2_with fail
  refine hrep.mono ?_
  rintro e w2 ⟨rfl, hw⟩
  subst w2
  go_wp2
  clear hmk hrep
  go_loopw [8] (fun i wr => ∃ k : Nat, k ≤ n ∧ i = .int .i64 k ∧ Below (w.heap.size + 1) w1 wr ∧ w.heap.size + 1 < wr.heap.size ∧ Hid (Filled wr (w.heap.size + 1) (n + 1) (fun j => if j < k then R.getD j 0 else 0))) (fun i _ => n - (intOf i).toNat)
  case atStart =>
    refine ⟨0, Nat.zero_le _, rfl, (Below.refl _ _).alloc (by omega) _, by simp [hs0], ?_⟩
    have := Filled.made w1 (n + 1)
    rw [hs0] at this
    exact this.congr fun j _ => by simp
  case round =>
    obtain ⟨k, hk, rfl, hbel, hsz, HFIL⟩ := hrel
    have HF1 : Hid (Filled wr w.heap.size n (fun j => R.getD j 0)) := fun j hj => ⟨(hbel.cell (p := ⟨w.heap.size, j, none⟩) (by simp)).trans (HF0.out j hj).1, (hbel.frozen (p := ⟨w.heap.size, j, none⟩) (by simp)).trans (HF0.out j hj).2⟩
    by_cases hlt : k < n
    · have hck : wr.cell? ⟨w.heap.size, k, none⟩ = some (.int .u8 (R.getD k 0)) := (HF1.out k hlt).1
      have hdk := (HFIL.out k (by omega)).1
      have hfk := (HFIL.out k (by omega)).2
      go_wp2
      go_roundw
      case rel =>
        exact ⟨k + 1, by omega, by go_num, hbel.setCell (Nat.le_refl _) _, by simpa using hsz, HFIL.out.set k (by omega) _ _ (fun j _ => step_if R k j)⟩
      case measure => simp [intOf]; omega
    · obtain rfl : k = n := by omega
      clear hlt
      have hdk := (HFIL.out k (by omega)).1
      have hfk := (HFIL.out k (by omega)).2
      have HX : Hid (Filled (wr.setCell ⟨w.heap.size + 1, k, none⟩ (.int .u8 c)) (w.heap.size + 1) (k + 1) (fun j => (R ++ [c]).getD j 0)) :=
        HFIL.out.set k (by omega) c _ (fun j hj => by rw [ext_at R c j (by rw [HN.out]; exact hj), HN.out])
      have HXR : Hid (Filled (wr.setCell ⟨w.heap.size + 1, k, none⟩ (.int .u8 c)) w.heap.size k (fun j => R.getD j 0)) := by
        intro j hj
        rw [World.frozen?_setCell, World.cell?_setCell_other _ _ _ _ (by intro hh; injection hh with h1 _ _; omega)]
        exact HF1.out j hj
      have HXB : Hid (Below w.heap.size w (wr.setCell ⟨w.heap.size + 1, k, none⟩ (.int .u8 c))) := (HB0.out.trans (hbel.mono (by omega))).setCell (by simp) _
      have HXN : Hid (dst (R ++ [c]) = stp st c) := by
        show dst (R ++ [c]) = stp st c
        rw [dst_snoc R c (by intro h; have := HN.out; rw [h] at this; simp at this; omega), HD.out]
      obtain ⟨w3, hw3⟩ : ∃ w3, w3 = wr.setCell ⟨w.heap.size + 1, k, none⟩ (.int .u8 c) := ⟨_, rfl⟩
      go_wp2_with fail
      rw [← hw3] at HX HXR HXB
      rw [← hw3]
      clear hw3 hdk hfk HFIL HF1 hbel hsz HF0 HB0 hs0
      refine (parse_any (w.heap.size + 1) 0 (k + 1) (k + 1) (R ++ [c]) _ (by simp; exact HN.out) (by omega) (by omega) HX.out.zero).mono ?_
      rintro e w4 ⟨rfl, hw⟩
      subst w4
      rw [HXN.out]
      by_cases hz : stp st c = 0
      · rw [hz]
        have HU2 : Hid (num st c = (0, !cmp st)) := by show num st c = (0, !cmp st); rw [HU.out, if_neg (by simpa using hz)]
        clear hz HU
        go_wp2_with fail
        refine (parse_any w.heap.size 0 k k R _ HN.out (by omega) (by omega) HXR.out.zero).mono ?_
        rintro e w4 ⟨rfl, hw⟩
        subst w4
        rw [HD.out]
        have hst : (st != 0) = true := by simp; omega
        go_wp2_with fail
        refine (complete_any st _).mono ?_
        rintro e w4 ⟨rfl, hw⟩
        subst w4
        cases hcm : cmp st
        · rw [hcm] at HU2
          go_wp2
          go_ret2
          exact ⟨retM HU2.out, HXB.out⟩
        · rw [hcm] at HU2
          go_wp2
          go_ret2
          exact ⟨retM HU2.out, HXB.out⟩
      · have hzb : (stp st c != 0) = true := by simpa using hz
        have HU2 : Hid (num st c = (stp st c, true)) := by show num st c = (stp st c, true); rw [HU.out, if_pos hz]
        clear hz HU
        go_wp2
        go_ret2
        exact ⟨retM HU2.out, HXB.out⟩
theorem model_any (st c : Int) (w : World) :
    Calls Trym.prog 8 #[.int .u8 st, .int .u8 c] w fun e w' => e = .returned (.tuple #[.int .u8 (num st c).1, .bool (num st c).2]) ∧ Below w.heap.size w w' := by
  by_cases h : 10 ≤ st ∧ st ≤ 17
  · exact model_yes c h w
  · exact model_not c h w
end Go.Proofs.Qxb6603224aMods
