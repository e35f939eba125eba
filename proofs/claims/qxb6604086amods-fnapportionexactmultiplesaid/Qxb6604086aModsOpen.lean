import Derived.WalkKit
import Derived.ProofKit
import Derived.OpenShut
import Derived.Laws.StructEq
namespace Go.Proofs.Qxb6604086aMods
open Go.ChangeShapes Go.WideShapes Go.ChangeAt Go.RowKit
/-- an array of integers that came in by value: its numbers, each fitting its kind -/
theorem open_arr {H : Type} {enc : TypeId × Value → H} {P : Program} {w : World} {r : Reach} {b0 base : Nat} {spare : Nat → Bool} {held : Bool} {t e : TypeId} {n : Nat} {k : IntKind} {v : Value} {d : DataW H} {p : List MemPlace}
    (ht : P.underlying t = some (.array n e)) (he : P.underlying e = some (.int k)) (hce : P.cellsOf e = 1) (hct : P.cellsOf t = n) (hv : Value.okWide P w r b0 t v) (h : DataW.Trod enc P w base spare held t v d p) :
    ∃ zs : List Int, zs.length = n ∧ v = .agg (zs.map (Value.int k)).toArray ∧ ∀ z ∈ zs, (Lit.int k z).wf = true := by
  simp only [Value.okWide, ht] at hv
  obtain ⟨cs, rfl, hsz, _⟩ := hv
  obtain ⟨fuel, hf⟩ := h
  simp only [Value.cells] at hf
  obtain ⟨xs, m, _, _, hl, hxl, hall⟩ := DataW.trod_array ht hf
  rw [hct] at hl
  have key : ∀ i, i < n → ∃ z : Int, cs[i]? = some (.int k z) ∧ (Lit.int k z).wf = true := by
    intro i hi
    have h1 := hall i hi
    rw [hce, Nat.mul_one] at h1
    have hi2 : i < cs.toList.length := by omega
    rw [List.drop_eq_getElem_cons hi2] at h1
    simp only [List.take_succ_cons, List.take_zero] at h1
    rw [List.getElem?_eq_getElem (by omega : i < xs.length)] at h1
    obtain ⟨z, e0, _, wz⟩ := DataW.trod_int he h1
    simp only [List.cons.injEq, and_true] at e0
    exact ⟨z, by rw [← Array.getElem?_toList, List.getElem?_eq_getElem hi2, e0], wz⟩
  have key2 : ∀ l : List Value, (∀ i, i < l.length → ∃ z : Int, l[i]? = some (.int k z) ∧ (Lit.int k z).wf = true) → ∃ zs : List Int, zs.length = l.length ∧ l = zs.map (Value.int k) ∧ ∀ z ∈ zs, (Lit.int k z).wf = true := by
    intro l
    induction l with
    | nil => intro _; exact ⟨[], rfl, rfl, by simp⟩
    | cons a l ih =>
      intro hh
      obtain ⟨zs, h1, h2, h3⟩ := ih (fun i hi => by simpa using hh (i + 1) (by simpa using hi))
      obtain ⟨z, h4, h5⟩ := hh 0 (by simp)
      simp at h4
      refine ⟨z :: zs, by simp [h1], by simp [h2, h4], ?_⟩
      intro y hy
      rcases List.mem_cons.1 hy with rfl | hy
      · exact h5
      · exact h3 y hy
  obtain ⟨zs, h1, h2, h3⟩ := key2 cs.toList (fun i hi => by
    obtain ⟨z, h4, h5⟩ := key i (by omega)
    exact ⟨z, by rw [Array.getElem?_toList]; exact h4, h5⟩)
  exact ⟨zs, by rw [h1]; exact hl, by rw [← h2], h3⟩
theorem all_range_int : ∀ (xs ys : List Int), xs.length = ys.length → ((List.range xs.length).all fun i => xs.getD i 0 == ys.getD i 0) = (xs == ys)
  | [], [], _ => rfl
  | x :: xs, y :: ys, h => by
    have ih := all_range_int xs ys (by simpa using h)
    rw [List.length_cons, List.range_succ_eq_map, List.all_cons, List.all_map]
    simp only [List.getD_cons_zero, Function.comp_def, List.getD_cons_succ, ih]
    simp [List.cons_beq_cons]
  | [], _ :: _, h => by simp at h
  | _ :: _, [], h => by simp at h
/-- '==' on two arrays of integers -/
theorem run_equalIn_ints {P : Program} (w : World) (d : Nat) (t e : TypeId) (n : Nat) (k : IntKind) (ht : P.underlying t = some (.array n e)) (he : P.underlying e = some (.int k)) (hsz : ∀ w, (sizeOf e).run P w = .ok 1 w)
    (xs ys : List Int) (hx : xs.length = n) (hy : ys.length = n) :
    (Op.equalIn (d + 2) t (.agg (xs.map (Value.int k)).toArray) (.agg (ys.map (Value.int k)).toArray)).run P w = .ok (xs == ys) w := by
  rw [← all_range_int xs ys (hx.trans hy.symm), hx, List.range_eq_range', Op.equalIn]
  simp only [Sem.run_bind, run_underlying ht, Result.andThen_ok, hsz, Std.Legacy.Range.forIn_eq_forIn_range', Std.Legacy.Range.size, Nat.sub_zero, Nat.add_sub_cancel, Nat.div_one]
  have hl : ∀ i ∈ List.range' 0 n 1, i < n := fun i hi => by simpa using (List.mem_range'_1.1 hi).2
  generalize List.range' 0 n 1 = l at hl ⊢
  induction l with
  | nil => simp
  | cons i l ih =>
    have hi : i < n := hl i (by simp)
    have px : (part e (xs.map (Value.int k)).toArray (i * 1)).run P w = .ok (.int k (xs.getD i 0)) w := by
      simp [part, isAgg, run_underlying he, List.getD, List.getElem?_eq_getElem (show i < xs.length by omega)]
    have py : (part e (ys.map (Value.int k)).toArray (i * 1)).run P w = .ok (.int k (ys.getD i 0)) w := by
      simp [part, isAgg, run_underlying he, List.getD, List.getElem?_eq_getElem (show i < ys.length by omega)]
    have pe : (Op.equalIn (d + 1) e (.int k (xs.getD i 0)) (.int k (ys.getD i 0))).run P w = .ok (xs.getD i 0 == ys.getD i 0) w :=
      run_equalIn_int w d e k k _ _ he
    simp only [List.forIn_cons, Sem.run_bind, px, py, pe, Result.andThen_ok, List.all_cons]
    cases hb : (xs.getD i 0 == ys.getD i 0)
    · simp
    · simp only [Bool.not_true, Bool.false_eq_true, if_false, Sem.run_pure, Result.andThen_ok, Bool.true_and]
      exact ih fun j hj => hl j (by simp [hj])
end Go.Proofs.Qxb6604086aMods
