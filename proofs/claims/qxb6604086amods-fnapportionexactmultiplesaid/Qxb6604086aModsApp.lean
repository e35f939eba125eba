import Derived.Test.Qxb6604086aModsProg
import Derived.Test.Qxb6604086aModsLaws
import Derived.Test.Qxb6604086aModsHam
import Derived.WalkLawsBesides
import Derived.Deep.QuietTactic
import Derived.BigQuiet
import Derived.Deep.DeepCutAuto
namespace Go.Proofs.Qxb6604086aMods
open Go.RowKit Ham
theorem info35 : (Trym.prog.info? 35).map (·.size) = some 4 := by kernel_rfl
theorem info22 : (Trym.prog.info? 22).map (·.size) = some 4 := by kernel_rfl
/-- four numbers, as cells -/
def i64s (l : List Int) : List Value := l.map (Value.int .i64)
theorem i64s_len (l : List Int) : (i64s l).length = l.length := by simp [i64s]
theorem i64s_at (l : List Int) (i : Nat) (h : i < l.length) : (i64s l)[i]? = some (.int .i64 (l.getD i 0)) := by simp [i64s, h]
theorem i64s_set (l : List Int) (i : Nat) (v : Int) : (i64s l).set i (.int .i64 v) = i64s (l.set i v) := by simp [i64s, List.map_set]
theorem i64s_one (l : List Int) : ∀ v ∈ i64s l, v.oneCell' = true := by
  intro v hv
  simp only [i64s, List.mem_map] at hv
  obtain ⟨x, _, rfl⟩ := hv
  rfl
theorem four_of {l : List Int} (h : l.length = 4) : ∃ a b c d, l = [a, b, c, d] := by
  match l, h with
  | [a, b, c, d], _ => exact ⟨a, b, c, d, rfl⟩
/-- block g holds these numbers -/
def Rw (w : World) (g : Nat) (t : TypeId) (l : List Int) : Prop := w.heap[g]? = some (.cells (i64s l).toArray t (0, 0))
theorem Rw.cell {w : World} {g : Nat} {t : TypeId} {l : List Int} (h : Rw w g t l) (i : Nat) (hi : i < l.length) : w.cell? ⟨g, i, none⟩ = some (.int .i64 (l.getD i 0)) := by
  rw [cell_of_row _ _ i _ _ _ h, List.getElem?_toArray]; exact i64s_at l i hi
theorem Rw.frozen {w : World} {g : Nat} {t : TypeId} {l : List Int} (h : Rw w g t l) (i : Nat) : w.frozen? ⟨g, i, none⟩ = false := by
  unfold Rw at h; simp [World.frozen?, h]
theorem Rw.lt {w : World} {g : Nat} {t : TypeId} {l : List Int} (h : Rw w g t l) : g < w.heap.size := (Array.getElem?_eq_some_iff.1 h).1
theorem Rw.setSame {w : World} {g : Nat} {t : TypeId} {l : List Int} (h : Rw w g t l) (i : Nat) (v : Int) : Rw (w.setCell ⟨g, i, none⟩ (.int .i64 v)) g t (l.set i v) := by
  have := heap_setCell_same w g i _ t (.int .i64 v) h
  simp only [List.setIfInBounds_toArray, i64s_set] at this
  exact this
theorem Rw.setOther {w : World} {g : Nat} {t : TypeId} {l : List Int} (h : Rw w g t l) (g' i : Nat) (v : Value) (hne : g ≠ g') : Rw (w.setCell ⟨g', i, none⟩ v) g t l := by
  unfold Rw; rw [heap_setCell_other _ _ _ _ hne]; exact h
theorem Rw.drewN {w : World} {g : Nat} {t : TypeId} {l : List Int} (h : Rw w g t l) (m : Nat) : Rw (w.drewN m) g t l := h
theorem Rw.drew {w : World} {g : Nat} {t : TypeId} {l : List Int} (h : Rw w g t l) : Rw w.drew g t l := h
theorem Rw.later {w w' : World} {g : Nat} {t : TypeId} {l : List Int} (h : Rw w g t l) {B : Nat} (hb : Below B w w') (hg : g < B) : Rw w' g t l := (hb.block g hg).trans h
theorem Rw.alloc {w : World} {g : Nat} {t : TypeId} {l : List Int} (h : Rw w g t l) (o : Obj) : Rw (w.alloc o) g t l := (heap_alloc_old _ _ h.lt).trans h
theorem Rw.new (w : World) (t : TypeId) (l : List Int) : Rw (w.alloc (.cells (i64s l).toArray t)) w.heap.size t l := heap_alloc_new _ _
theorem Rw.load {w : World} {g : Nat} {t : TypeId} {l : List Int} (h : Rw w g t l) : w.heap[g]? = some (.cells (i64s l).toArray t (0, 0)) := h
/-- a whole block written -/
theorem store_row {P : Program} {ops : Array Oper} {rest : List Oper} {o : Oper} {a : Act} {w w' : World} {Q : Exit → Act → World → Prop}
    (hw : Region.wanted o (yielded ops a.tmps) = true) (ty : TypeId) (x y : Operand) (ho : o.op = .store ty x y)
    (g : Nat) (ds : List Value) (hx : a.eval x = .pointer (some ⟨g, 0, none⟩)) (hy : a.eval y = .agg ds.toArray) (t : TypeId) (old : List Value) (hg : w.heap[g]? = some (.cells old.toArray t (0, 0)))
    (hi : (P.info? ty).map (·.size) = some ds.length) (hold : old.length = ds.length) (h1 : ∀ v ∈ ds, v.oneCell' = true) (hw' : w.setRow g ds.toArray = w') (hdst : o.dst = none)
    (h : wpList P ops Q rest a w') : wpList P ops Q (o :: rest) a w :=
  wpList_store_part hw ty x y ho g 0 ds hx hy t [] old [] (by simpa using hg) rfl hi hold h1 (by rw [hdst]; simp only [List.nil_append, List.append_nil]; rw [hw']; exact h)
theorem below_row {B : Nat} {a w : World} (h : Below B a w) {g : Nat} (hg : B ≤ g) (c : Array Value) : Below B a (w.setRow g c) :=
  ⟨h.os, h.tape, h.output, by rw [setRow_size]; exact h.size, fun k hk => by rw [setRow_other w g k c (by omega)]; exact h.block k hk⟩
theorem sz35 {l : List Int} (h : l.length = 4) : (Trym.prog.info? 35).map (·.size) = some (i64s l).length := by rw [i64s_len, h]; exact info35
theorem sz22 {l : List Int} (h : l.length = 4) : (Trym.prog.info? 22).map (·.size) = some (i64s l).length := by rw [i64s_len, h]; exact info22
theorem ix0 (a b c d : Int) (w : World) : (Instr.index 35 (.agg (i64s [a, b, c, d]).toArray) (.int .i64 ((0 : Nat) : Int))).run Trym.prog w = .ok (.int .i64 ([a, b, c, d].getD 0 0)) w := by kernel_rfl
theorem ix1 (a b c d : Int) (w : World) : (Instr.index 35 (.agg (i64s [a, b, c, d]).toArray) (.int .i64 ((1 : Nat) : Int))).run Trym.prog w = .ok (.int .i64 ([a, b, c, d].getD 1 0)) w := by kernel_rfl
theorem ix2 (a b c d : Int) (w : World) : (Instr.index 35 (.agg (i64s [a, b, c, d]).toArray) (.int .i64 ((2 : Nat) : Int))).run Trym.prog w = .ok (.int .i64 ([a, b, c, d].getD 2 0)) w := by kernel_rfl
theorem ix3 (a b c d : Int) (w : World) : (Instr.index 35 (.agg (i64s [a, b, c, d]).toArray) (.int .i64 ((3 : Nat) : Int))).run Trym.prog w = .ok (.int .i64 ([a, b, c, d].getD 3 0)) w := by kernel_rfl
theorem index35 {X : List Int} (h : X.length = 4) (k : Nat) (hk : k < 4) (w : World) : (Instr.index 35 (.agg (i64s X).toArray) (.int .i64 (k : Int))).run Trym.prog w = .ok (.int .i64 (X.getD k 0)) w := by
  obtain ⟨a, b, c, d, rfl⟩ := four_of h
  have e : k = 0 ∨ k = 1 ∨ k = 2 ∨ k = 3 := by omega
  rcases e with rfl | rfl | rfl | rfl
  · exact ix0 a b c d w
  · exact ix1 a b c d w
  · exact ix2 a b c d w
  · exact ix3 a b c d w
/-- sums of the first k -/
def ps (X : List Int) : Nat → Int
  | 0 => 0
  | k + 1 => ps X k + X.getD k 0
theorem ps_four (X : List Int) : ps X 4 = s4 X := by simp [ps, s4]
theorem ps_bd {n T : Int} {X : List Int} (h : Pre n T X) (k : Nat) (hk : k ≤ 4) : 0 ≤ ps X k ∧ ps X k ≤ T := by
  have h0 := h.pos 0 (by omega)
  have h1 := h.pos 1 (by omega)
  have h2 := h.pos 2 (by omega)
  have h3 := h.pos 3 (by omega)
  have hs := h.sum
  unfold s4 at hs
  match k, hk with
  | 0, _ => simp only [ps]; omega
  | 1, _ => simp only [ps]; omega
  | 2, _ => simp only [ps]; omega
  | 3, _ => simp only [ps]; omega
  | 4, _ => simp only [ps]; omega
def Z4 : List Int := [0, 0, 0, 0]
/-- the rows as the second loop fills them -/
def fq (n T : Int) (X : List Int) (k : Nat) : List Int := [if 0 < k then q n T X 0 else 0, if 1 < k then q n T X 1 else 0, if 2 < k then q n T X 2 else 0, if 3 < k then q n T X 3 else 0]
def fr (n T : Int) (X : List Int) (k : Nat) : List Int := [if 0 < k then r n T X 0 else 0, if 1 < k then r n T X 1 else 0, if 2 < k then r n T X 2 else 0, if 3 < k then r n T X 3 else 0]
theorem fq_set (n T : Int) (X : List Int) (k : Nat) (hk : k < 4) : (fq n T X k).set k (q n T X k) = fq n T X (k + 1) := by
  match k, hk with
  | 0, _ => rfl
  | 1, _ => rfl
  | 2, _ => rfl
  | 3, _ => rfl
theorem fr_set (n T : Int) (X : List Int) (k : Nat) (hk : k < 4) : (fr n T X k).set k (r n T X k) = fr n T X (k + 1) := by
  match k, hk with
  | 0, _ => rfl
  | 1, _ => rfl
  | 2, _ => rfl
  | 3, _ => rfl
def qs (n T : Int) (X : List Int) : Nat → Int
  | 0 => 0
  | k + 1 => qs n T X k + q n T X k
theorem qs_bd {n T : Int} {X : List Int} (h : Pre n T X) (k : Nat) (hk : k ≤ 4) : 0 ≤ qs n T X k ∧ qs n T X k ≤ n := by
  have h0 := (qr h 0 (by omega)).2.1
  have h1 := (qr h 1 (by omega)).2.1
  have h2 := (qr h 2 (by omega)).2.1
  have h3 := (qr h 3 (by omega)).2.1
  have hL := (left_bd h).1
  unfold L at hL
  match k, hk with
  | 0, _ => simp only [qs]; omega
  | 1, _ => simp only [qs]; omega
  | 2, _ => simp only [qs]; omega
  | 3, _ => simp only [qs]; omega
  | 4, _ => simp only [qs]; omega
theorem inv_start {n T : Int} {X : List Int} (h : Pre n T X) : Inv n T X (fq n T X 4) (fr n T X 4) (n - qs n T X 4) := by
  have hL := (left_bd h).1
  unfold L at hL
  refine ⟨rfl, rfl, four (.inl ⟨rfl, rfl⟩) (.inl ⟨rfl, rfl⟩) (.inl ⟨rfl, rfl⟩) (.inl ⟨rfl, rfl⟩), ?_, ?_, ?_⟩
  · simp [s4, fq, qs]; omega
  · simp only [qs]; omega
  · intro i hi j hj h1
    exfalso
    have hr := (qr h i hi).2.2.1
    have : (fr n T X 4).getD i 0 = r n T X i := by
      match i, hi with
      | 0, _ => rfl
      | 1, _ => rfl
      | 2, _ => rfl
      | 3, _ => rfl
    omega
set_option maxRecDepth 100000 in
set_option maxHeartbeats 1000000 in
theorem app_any (n T : Int) (X : List Int) (w : World) (hp : Pre n T X) (hb : ∀ i, i < 4 → n * X.getD i 0 ≤ 9223372036854775807) (hTm : T ≤ 9223372036854775807) (hnm : n ≤ 9223372036854775807) :
    Calls Trym.prog 8 #[.int .i64 n, .agg (i64s X).toArray] w fun e w' => ∃ S, e = .returned (.agg (i64s S).toArray) ∧ Ham.Good n T X S ∧ Below w.heap.size w w' := by
  have hn := hp.hn
  have hT := hp.hT
  have HP : Hid (Pre n T X) := hp
  have HB : Hid (∀ i, i < 4 → n * X.getD i 0 ≤ 9223372036854775807) := hb
  clear hp hb
  go_enter Trym.func8, Trym.ntmps8
  go_upto_region 1 with fail
  obtain ⟨V, hV⟩ : ∃ V, V = (w.alloc (.cells (i64s X).toArray 35)).alloc (.cells #[.int .i64 0, .int .i64 0, .int .i64 0, .int .i64 0] 35) := ⟨_, rfl⟩
  rw [← hV]
  have HV3 : Hid (Rw V w.heap.size 35 X) := by rw [hV]; exact (Rw.new _ _ _).alloc _
  have HV4 : Hid (Rw V (w.heap.size + 1) 35 Z4) := by rw [hV]; exact heap_alloc2_new _ _ _
  have HVS : Hid (V.heap.size = w.heap.size + 2) := by rw [hV]; exact (by simp : ((w.alloc (.cells (i64s X).toArray 35)).alloc (.cells #[.int .i64 0, .int .i64 0, .int .i64 0, .int .i64 0] 35)).heap.size = w.heap.size + 2)
  have HVB : Hid (Below w.heap.size w V) := by rw [hV]; exact ((Below.refl _ _).alloc (Nat.le_refl _) _).alloc (by simp) _
  clear hV
  go_wp2_with (refine wpList_load_part (by rfl) 35 (.tmp 3) rfl w.heap.size 0 rfl 35 _ _ (i64s X) _ HV3.out.load (fun j _ => by simp) Trym.underlying35 rfl (sz35 HP.out.len) ?_)
  go_loop [5, 16] (fun t i => ∃ k : Nat, k ≤ 4 ∧ i = .int .i64 k ∧ t = .int .i64 (ps X k)) (fun _ i => 4 - (intOf i).toNat)
  case atStart => exact ⟨0, by omega, rfl, rfl⟩
  case round =>
    obtain ⟨k, hk, rfl, rfl⟩ := hrel
    by_cases hlt : k < 4
    · have hix := fun w => index35 HP.out.len k hlt w
      have hb1 := ps_bd HP.out (k + 1) (by omega)
      have hb0 := ps_bd HP.out k hk
      have e : ps X (k + 1) = ps X k + X.getD k 0 := rfl
      rw [e] at hb1
      clear e
      obtain ⟨s, hs⟩ : ∃ s, s = ps X k := ⟨_, rfl⟩
      obtain ⟨x, hx⟩ : ∃ x, x = X.getD k 0 := ⟨_, rfl⟩
      rw [← hs, ← hx] at hb1
      rw [← hs] at hb0
      simp only [← hx] at hix
      rw [← hs]
      have HSX : Hid (s + x = ps X (k + 1)) := by rw [hs, hx]; rfl
      clear hs hx
      go_wp2
      go_round
      case rel => exact ⟨k + 1, by omega, by go_num, by rw [← HSX.out]⟩
      case measure => simp [intOf]; omega
    · obtain rfl : k = 4 := by omega
      clear hlt hk
      have e : ps X 4 = T := by rw [ps_four]; exact HP.out.sum.symm
      rw [e]
      clear e
      have hT0 : (T == 0) = false := by simp; omega
      go_upto_region 13 with fail
      obtain ⟨g8, hg8⟩ : ∃ g, g = V.heap.size := ⟨_, rfl⟩
      obtain ⟨W, hW⟩ : ∃ W, W = (V.alloc (.cells #[.int .i64 0, .int .i64 0, .int .i64 0, .int .i64 0] 35)).alloc (.cells #[.int .i64 0, .int .i64 0, .int .i64 0, .int .i64 0] 35) := ⟨_, rfl⟩
      rw [← hW, ← hg8]
      have HG : Hid (w.heap.size + 1 < g8) := by rw [hg8]; have := HVS.out; exact (by omega : w.heap.size + 1 < V.heap.size)
      have HW3 : Hid (Rw W w.heap.size 35 X) := by rw [hW]; exact (HV3.out.alloc _).alloc _
      have HW4 : Hid (Rw W (w.heap.size + 1) 35 Z4) := by rw [hW]; exact (HV4.out.alloc _).alloc _
      have HW8 : Hid (Rw W g8 35 Z4) := by rw [hW, hg8]; exact heap_alloc2_old _ _ _
      have HW9 : Hid (Rw W (g8 + 1) 35 Z4) := by rw [hW, hg8]; exact heap_alloc2_new _ _ _
      have HWB : Hid (Below w.heap.size w W) := by rw [hW]; exact (HVB.out.alloc HVB.out.size _).alloc (by simp; have := HVB.out.size; omega) _
      clear hW hg8 HV3 HV4 HVS HVB hT0
      go_wp2_with (refine wpList_load_part (by rfl) 35 (.tmp 3) rfl w.heap.size 0 rfl 35 _ _ (i64s X) _ HW3.out.load (fun j _ => by simp) Trym.underlying35 rfl (sz35 HP.out.len) ?_)
      go_loopw [10, 30] (fun t i wr => ∃ k : Nat, k ≤ 4 ∧ i = .int .i64 k ∧ t = .int .i64 (n - qs n T X k) ∧ Hid (Rw wr (w.heap.size + 1) 35 Z4 ∧ Rw wr g8 35 (fq n T X k) ∧ Rw wr (g8 + 1) 35 (fr n T X k) ∧ Below w.heap.size w wr)) (fun _ i _ => 4 - (intOf i).toNat)
      case atStart => exact ⟨0, by omega, rfl, by simp [qs], HW4.out, HW8.out, HW9.out, HWB.out⟩
      case round =>
        clear HW3 HW4 HW8 HW9 HWB
        obtain ⟨k, hk, rfl, rfl, HR⟩ := hrel
        by_cases hlt : k < 4
        · have hix := fun w => index35 HP.out.len k hlt w
          have hqb := qs_bd HP.out (k + 1) (by omega)
          have hqb0 := qs_bd HP.out k hk
          have e : qs n T X (k + 1) = qs n T X k + q n T X k := rfl
          have hqr := qr HP.out k hlt
          have hm := HB.out k hlt
          have hm0 : 0 ≤ n * X.getD k 0 := Int.mul_nonneg hn (HP.out.pos k hlt)
          obtain ⟨x, hx⟩ : ∃ x, x = X.getD k 0 := ⟨_, rfl⟩
          have hq : q n T X k = n * x / T := by rw [hx]; rfl
          have hr : r n T X k = n * x % T := by rw [hx]; rfl
          rw [e] at hqb
          rw [← hx] at hm hm0
          simp only [← hx] at hix
          obtain ⟨s, hs⟩ : ∃ s, s = qs n T X k := ⟨_, rfl⟩
          rw [← hs] at hqb hqb0
          rw [hq] at hqb hqr
          rw [hr] at hqr
          rw [← hs]
          have HQ : Hid (s + n * x / T = qs n T X (k + 1)) := by rw [hs, ← hq]; rfl
          have HQ2 : Hid (n * x / T = q n T X k ∧ n * x % T = r n T X k) := ⟨hq.symm, hr.symm⟩
          have hqr1 := hqr.2.1
          have hqr2 := hqr.2.2
          clear hqr e hq hr hs hx
          have hc8 := HR.out.2.1.cell k (by exact hlt)
          have hf8 := HR.out.2.1.frozen k
          have hc9 := HR.out.2.2.1.cell k (by exact hlt)
          have hf9 := HR.out.2.2.1.frozen k
          go_wp2
          go_region
          all_goals go_wp2
          go_roundw
          case rel =>
            refine ⟨k + 1, by omega, by go_num, by rw [← HQ.out]; go_num, ?_, ?_, ?_, ?_⟩
            · exact ((HR.out.1.setOther _ _ _ (by have := HG.out; omega)).setOther _ _ _ (by have := HG.out; omega)).drew
            · have h := ((HR.out.2.1.setSame k (n * x / T)).setOther (g8 + 1) k (.int .i64 (n * x % T)) (by omega)).drew
              rw [HQ2.out.1, fq_set n T X k hlt, ← HQ2.out.1] at h
              exact h
            · have h := ((HR.out.2.2.1.setOther g8 k (.int .i64 (n * x / T)) (by omega)).setSame k (n * x % T)).drew
              rw [HQ2.out.2, fr_set n T X k hlt, ← HQ2.out.2] at h
              exact h
            · exact ((HR.out.2.2.2.setCell (by have := HG.out; exact (by omega : w.heap.size ≤ g8)) _).setCell (by have := HG.out; exact (by omega : w.heap.size ≤ g8 + 1)) _).drew
          case measure => simp [intOf]; omega
        · obtain rfl : k = 4 := by omega
          clear hlt hk
          have HI : Hid (Inv n T X (fq n T X 4) (fr n T X 4) (n - qs n T X 4)) := inv_start HP.out
          obtain ⟨l, hl⟩ : ∃ l, l = n - qs n T X 4 := ⟨_, rfl⟩
          obtain ⟨S, hS⟩ : ∃ S, S = fq n T X 4 := ⟨_, rfl⟩
          obtain ⟨C, hC⟩ : ∃ C, C = fr n T X 4 := ⟨_, rfl⟩
          rw [← hl, ← hS, ← hC] at HI
          rw [← hS, ← hC] at HR
          rw [← hl]
          clear hl hS hC
          go_wp2
          go_loopw [10] (fun t wx => ∃ (l : Int) (S C : List Int), t = .int .i64 l ∧ Hid (Inv n T X S C l ∧ Rw wx (w.heap.size + 1) 35 Z4 ∧ Rw wx g8 35 S ∧ Rw wx (g8 + 1) 35 C ∧ Below w.heap.size w wx)) (fun t _ => (intOf t).toNat)
          case atStart => exact ⟨l, S, C, rfl, HI.out, HR.out⟩
          case round =>
            clear HI HR
            obtain ⟨l, S, C, rfl, HR⟩ := hrel
            obtain ⟨wo, hwo⟩ : ∃ wo, wo = wr := ⟨_, rfl⟩
            subst hwo
            have hl0 := HR.out.1.nn
            have hlm : l ≤ n := by have := HR.out.1.bound HP.out 0 (by omega); omega
            by_cases hl : 0 < l
            · go_wp2
              go_loopw [13, 58] (fun m i wx => ∃ k mm nd : Nat, k ≤ 4 ∧ mm < 4 ∧ mm ≤ k ∧ i = .int .i64 k ∧ m = .int .i64 mm ∧ wx = wo.drewN nd ∧ Hid (First C k mm)) (fun _ i _ => 4 - (intOf i).toNat)
              case atStart => exact ⟨0, 0, 0, by omega, by omega, by omega, rfl, rfl, rfl, First.start C⟩
              case round =>
                obtain ⟨k, mm, nd, hk, hm4, hmk, rfl, rfl, rfl, HF⟩ := hrel
                by_cases hlt : k < 4
                · have hck := HR.out.2.2.2.1.cell k (by rw [HR.out.1.lenC]; exact hlt)
                  have hcm := HR.out.2.2.2.1.cell mm (by rw [HR.out.1.lenC]; exact hm4)
                  obtain ⟨ck, hckd⟩ : ∃ c, c = C.getD k 0 := ⟨_, rfl⟩
                  obtain ⟨cm, hcmd⟩ : ∃ c, c = C.getD mm 0 := ⟨_, rfl⟩
                  rw [← hckd] at hck
                  rw [← hcmd] at hcm
                  have hki : (k : Int) < 4 := by omega
                  have hmi : (mm : Int) < 4 := by omega
                  by_cases hgt : cm < ck
                  · have HN : Hid (First C (k + 1) k) := HF.out.take (by rw [← hckd, ← hcmd]; exact hgt) hlt
                    clear hckd hcmd
                    go_wp2
                    go_quiet (fail)
                    go_wp2
                    go_roundw
                    case rel => exact ⟨k + 1, k, nd + nq, by omega, by omega, by omega, by go_num, rfl, by simp, HN⟩
                    case measure => simp [intOf]; omega
                  · have HN : Hid (First C (k + 1) mm) := HF.out.keep (by rw [← hckd, ← hcmd]; omega) hmk
                    clear hckd hcmd
                    go_wp2
                    go_quiet (fail)
                    go_wp2
                    go_roundw
                    case rel => (repeat apply Exists.intro); exact ⟨⟨k + 1, mm, nd + nq, by omega, by omega, by omega, by go_num, rfl, by simp, HN⟩, rfl⟩
                    case measure => simp [intOf]; omega
                · obtain rfl : k = 4 := by omega
                  clear hlt hk hmk
                  have HI := HR.out.1.step HP.out hl HF.out
                  have hbd := HR.out.1.bound HP.out mm hm4
                  have hcS := HR.out.2.2.1.cell mm (by rw [HR.out.1.lenS]; exact hm4)
                  have hfS := HR.out.2.2.1.frozen mm
                  have hcC := HR.out.2.2.2.1.cell mm (by rw [HR.out.1.lenC]; exact hm4)
                  have hfC := HR.out.2.2.2.1.frozen mm
                  obtain ⟨sm, hsm⟩ : ∃ s, s = S.getD mm 0 := ⟨_, rfl⟩
                  rw [← hsm] at hcS hbd HI
                  have HI2 : Hid (Inv n T X (S.set mm (sm + 1)) (C.set mm (-1)) (l - 1)) := HI
                  clear hsm HI
                  go_wp2
                  go_roundw
                  case rel =>
                    refine ⟨l - 1, _, _, by go_num, HI2.out, ?_, ?_, ?_, ?_⟩
                    · exact ((HR.out.2.1.setOther _ _ _ (by have := HG.out; omega)).setOther _ _ _ (by have := HG.out; omega)).drewN nd
                    · exact ((HR.out.2.2.1.setSame mm (sm + 1)).setOther (g8 + 1) mm (.int .i64 (-1)) (by omega)).drewN nd
                    · exact ((HR.out.2.2.2.1.setOther g8 mm (.int .i64 (sm + 1)) (by omega)).setSame mm (-1)).drewN nd
                    · exact below_drewN ((HR.out.2.2.2.2.setCell (by have := HG.out; exact (by omega : w.heap.size ≤ g8)) _).setCell (by have := HG.out; exact (by omega : w.heap.size ≤ g8 + 1)) _) nd
                  case measure => simp [intOf]; omega
            · have HGD : Hid (Ham.Good n T X S) := HR.out.1.done HP.out hl
              go_upto_region 30 with fail
              obtain ⟨wf, hwf⟩ : ∃ wf, wf = wo.setRow (w.heap.size + 1) (i64s S).toArray := ⟨_, rfl⟩
              have HWF : Hid (wo.setRow (w.heap.size + 1) (i64s S).toArray = wf) := hwf.symm
              have HWR : Hid (Rw wf (w.heap.size + 1) 35 S) := by rw [hwf]; exact setRow_heap _ _ _ _ _ _ HR.out.2.1
              have HWB : Hid (Below w.heap.size w wf) := by rw [hwf]; exact below_row HR.out.2.2.2.2 (by omega) _
              have HLS : Hid (S.length = 4) := HR.out.1.lenS
              clear hwf
              go_wp2_with (first
                | (refine wpList_load_part (by rfl) 35 (.tmp 8) rfl g8 0 rfl 35 _ _ (i64s S) _ HR.out.2.2.1.load (fun j _ => by simp) Trym.underlying35 rfl (sz35 HLS.out) ?_)
                | (refine store_row (w' := wf) (by rfl) 35 (.tmp 4) (.tmp 77) rfl (w.heap.size + 1) (i64s S) rfl rfl 35 (i64s Z4) HR.out.2.1 (sz35 HLS.out) (by rw [i64s_len, i64s_len, HLS.out]; rfl) (i64s_one _) HWF.out rfl ?_))
              refine bodyPost_ret (v := .agg (i64s S).toArray) (results_cell_row Trym.results8 _ _ (w.heap.size + 1) 35 _ _ _ rfl HWR.out.load Trym.underlying35 rfl (by simpa using sz35 HLS.out)) rfl ⟨S, rfl, HGD.out, HWB.out⟩
end Go.Proofs.Qxb6604086aMods
