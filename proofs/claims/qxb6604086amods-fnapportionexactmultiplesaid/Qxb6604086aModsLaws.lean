import Derived.WalkKit
import Derived.Laws.Rows
import Derived.Laws.Tables
namespace Go.Proofs.Qxb6604086aMods
open Go.RowKit
/-- an operation that is wanted and whose run is known -/
theorem wpList_value {P : Program} {ops : Array Oper} {rest : List Oper} {o : Oper} {a : Act} {w w' : World} {Q : Exit → Act → World → Prop} {v : Value}
    (hw : Region.wanted o (yielded ops a.tmps) = true) (hr : (execOp a.eval o).run P w = .ok (.value v) w') (h : wpList P ops Q rest (a.put o.dst v) w') : wpList P ops Q (o :: rest) a w :=
  wpList_step fun K hK => by rw [if_pos hw]; unfold Oper.wp; rw [hr]; exact hK _ _ h
theorem wpList_skips {P : Program} {ops : Array Oper} {rest : List Oper} {o : Oper} {a : Act} {w w' : World} {Q : Exit → Act → World → Prop}
    (hw : Region.wanted o (yielded ops a.tmps) = true) (hr : (execOp a.eval o).run P w = .ok .skip w') (h : wpList P ops Q rest (a.put o.dst undef) w') : wpList P ops Q (o :: rest) a w :=
  wpList_step fun K hK => by rw [if_pos hw]; unfold Oper.wp; rw [hr]; exact hK _ _ h
/-- a struct or array read out of the middle of a block -/
theorem run_loadVar_part {P : Program} (w : World) (g off : Nat) (t ty : TypeId) (cs : Array Value) (fr : Nat × Nat) (ds : List Value) (d : TypeDesc) (hg : w.heap[g]? = some (.cells cs t fr)) (hds : ∀ j, j < ds.length → cs[off + j]? = ds[j]?)
    (hu : P.underlying ty = some d) (hd : (match d with | .struct _ | .array _ _ => true | _ => false) = true) (hi : (P.info? ty).map (·.size) = some ds.length) :
    (loadVar ty ⟨g, off, none⟩).run P w = .ok (.agg ds.toArray) w := by
  have hl : (loadCells ⟨g, off, none⟩ ds.length).run P w = .ok ds.toArray w :=
    run_loadCells_list (P := P) w ⟨g, off, none⟩ ds (fun j v hv => by
      have hadd : (⟨g, off, none⟩ : Addr).add j = ⟨g, off + j, none⟩ := by unfold Addr.add; split <;> simp_all
      have hj : j < ds.length := (List.getElem?_eq_some_iff.1 hv).1
      rw [hadd, cell_of_row w g (off + j) cs t fr hg, hds j hj, hv])
  cases hq : P.info? ty with
  | none => simp [hq] at hi
  | some i =>
    have hs : i.size = ds.length := by simpa [hq] using hi
    have hagg : (isAgg ty).run P w = .ok true w := by
      unfold isAgg
      rw [Sem.run_bind, run_underlying hu w]
      cases d <;> simp_all
    simp [loadVar, Sem.run_bind, hagg, sizeOf, typeInfo, hq, hs, hl]
theorem wpList_load_part {P : Program} {ops : Array Oper} {rest : List Oper} {o : Oper} {a : Act} {w : World} {Q : Exit → Act → World → Prop}
    (hw : Region.wanted o (yielded ops a.tmps) = true) (ty : TypeId) (x : Operand) (ho : o.op = .load ty x)
    (g off : Nat) (hx : a.eval x = .pointer (some ⟨g, off, none⟩)) (t : TypeId) (cs : Array Value) (fr : Nat × Nat) (ds : List Value) (d : TypeDesc) (hg : w.heap[g]? = some (.cells cs t fr)) (hds : ∀ j, j < ds.length → cs[off + j]? = ds[j]?)
    (hu : P.underlying ty = some d) (hd : (match d with | .struct _ | .array _ _ => true | _ => false) = true) (hi : (P.info? ty).map (·.size) = some ds.length)
    (h : wpList P ops Q rest (a.put o.dst (.agg ds.toArray)) w) : wpList P ops Q (o :: rest) a w :=
  wpList_value hw (by
    unfold execOp
    simp only [ho, hx, Instr.loadAt, Instr.sureAddr, Sem.run_bind, Sem.run_pure, Result.andThen_ok, run_loadVar_part w g off t ty cs fr ds d hg hds hu hd hi]) h
theorem run_storeCells_off {P : Program} (g off : Nat) (t : TypeId) : ∀ (vs : List Value) (i : Nat) (cur : Array Value) (w : World), w.heap[g]? = some (.cells cur t (0, 0)) → off + i + vs.length ≤ cur.size → (∀ v ∈ vs, v.oneCell' = true) →
    (storeCells ⟨g, off, none⟩ vs i).run P w = .ok () (w.setRow g (cur.toList.take (off + i) ++ (vs ++ cur.toList.drop (off + i + vs.length))).toArray)
  | [], i, cur, w, hg, hl, _ => by
    have hlt : g < w.heap.size := (Array.getElem?_eq_some_iff.1 hg).1
    have hv : w.heap[g] = .cells cur t (0, 0) := (Array.getElem?_eq_some_iff.1 hg).2
    simp only [storeCells, List.nil_append, List.length_nil, Nat.add_zero, List.take_append_drop, Array.toArray_toList]
    show Result.ok () w = _
    congr 1
    unfold World.setRow
    cases w with
    | mk heap tape drawn os output =>
      congr 1
      apply Array.ext
      · simp
      · intro k h1 h2
        simp only [Array.getElem_modify]
        split
        · rename_i hk; subst hk; simp at hv; simp [hv]
        · rfl
  | v :: rest, i, cur, w, hg, hl, h1 => by
    have hi : off + i < cur.size := by simp at hl; omega
    have hadd : (⟨g, off, none⟩ : Addr).add i = ⟨g, off + i, none⟩ := by unfold Addr.add; split <;> simp_all
    have hcell : w.cell? ⟨g, off + i, none⟩ = some cur[off + i] := by simp [World.cell?, hg, hi]
    have hfro : w.frozen? ⟨g, off + i, none⟩ = false := by simp [World.frozen?, hg]
    have hst : (store ((⟨g, off, none⟩ : Addr).add i) v).run P w = .ok () (w.setRow g (cur.setIfInBounds (off + i) v)) := by
      rw [hadd, run_store P w _ v _ (h1 v (by simp)), hcell]
      simp [hfro, setCell_eq_setRow w g (off + i) cur t (0, 0) v hg]
    have ih := run_storeCells_off (P := P) g off t rest (i + 1) (cur.setIfInBounds (off + i) v) (w.setRow g (cur.setIfInBounds (off + i) v)) (setRow_heap w g cur _ t _ hg) (by simp at hl ⊢; omega) (fun x hx => h1 x (by simp [hx]))
    simp only [storeCells, Sem.run_bind, hst, Result.andThen_ok, ih, setRow_setRow]
    congr 3
    simp only [Array.toList_setIfInBounds, List.length_cons]
    rw [show off + (i + 1) = off + i + 1 from by omega, List.take_succ_eq_append_getElem (by simpa using hi)]
    have e1 : (cur.toList.set (off + i) v).take (off + i) = cur.toList.take (off + i) := by
      rw [List.take_set]; exact List.set_eq_of_length_le (by simp; omega)
    have e2 : (cur.toList.set (off + i) v).drop (off + i + 1 + rest.length) = cur.toList.drop (off + i + (rest.length + 1)) := by
      rw [List.drop_set, if_pos (by omega)]; congr 1; omega
    rw [e1, e2]
    simp
theorem run_storeVar_part {P : Program} (w : World) (g off : Nat) (t ty : TypeId) (pre old post ds : List Value) (hg : w.heap[g]? = some (.cells (pre ++ (old ++ post)).toArray t (0, 0))) (hoff : pre.length = off) (hi : (P.info? ty).map (·.size) = some ds.length)
    (hold : old.length = ds.length) (h1 : ∀ v ∈ ds, v.oneCell' = true) :
    (storeVar ty ⟨g, off, none⟩ (.agg ds.toArray)).run P w = .ok () (w.setRow g (pre ++ (ds ++ post)).toArray) := by
  have := run_storeCells_off (P := P) g off t ds 0 _ w hg (by simp; omega) h1
  cases hq : P.info? ty with
  | none => simp [hq] at hi
  | some i =>
    have hs : ds.length = i.size := by simp [hq] at hi; omega
    subst hoff
    have e : (pre ++ (old ++ post)).drop (pre.length + ds.length) = post := by
      rw [← hold, ← List.length_append, ← List.append_assoc, List.drop_left]
    rw [Nat.add_zero] at this
    simp only [List.take_left, e] at this
    simp [storeVar, sizeOf, typeInfo, hq, Value.cells, hs, this]
theorem wpList_store_part {P : Program} {ops : Array Oper} {rest : List Oper} {o : Oper} {a : Act} {w : World} {Q : Exit → Act → World → Prop}
    (hw : Region.wanted o (yielded ops a.tmps) = true) (ty : TypeId) (x y : Operand) (ho : o.op = .store ty x y)
    (g off : Nat) (ds : List Value) (hx : a.eval x = .pointer (some ⟨g, off, none⟩)) (hy : a.eval y = .agg ds.toArray) (t : TypeId) (pre old post : List Value) (hg : w.heap[g]? = some (.cells (pre ++ (old ++ post)).toArray t (0, 0))) (hoff : pre.length = off)
    (hi : (P.info? ty).map (·.size) = some ds.length) (hold : old.length = ds.length) (h1 : ∀ v ∈ ds, v.oneCell' = true)
    (h : wpList P ops Q rest (a.put o.dst undef) (w.setRow g (pre ++ (ds ++ post)).toArray)) : wpList P ops Q (o :: rest) a w :=
  wpList_skips hw (by
    unfold execOp
    simp only [ho, hx, hy, Instr.storeAt, Instr.sureAddr, Sem.run_bind, Sem.run_pure, Result.andThen_ok, run_storeVar_part w g off t ty pre old post ds hg hoff hi hold h1]) h
theorem setRow_alloc_at (w : World) (c c' : Array Value) (t : TypeId) : (w.alloc (.cells c t)).setRow w.heap.size c' = w.alloc (.cells c' t) := by
  unfold World.setRow World.alloc
  simp only [World.mk.injEq, and_true]
  apply Array.ext
  · simp
  · intro k h1 h2
    simp only [Array.getElem_modify]
    split
    · rename_i hk; subst hk; simp
    · rename_i hk
      simp at h2
      rw [Array.getElem_push_lt (by omega), Array.getElem_push_lt (by omega)]
theorem setRow_alloc_past (w : World) (o : Obj) (g : Nat) (c' : Array Value) (h : g < w.heap.size) : (w.alloc o).setRow g c' = (w.setRow g c').alloc o := by
  unfold World.setRow World.alloc
  simp only [World.mk.injEq, and_true]
  apply Array.ext_getElem?
  intro k
  rw [Array.getElem?_modify, Array.getElem?_push, Array.getElem?_push, Array.getElem?_modify, Array.size_modify]
  by_cases hk : k = w.heap.size
  · rw [if_pos hk, if_neg (by omega), if_pos hk]
  · rw [if_neg hk, if_neg hk]
end Go.Proofs.Qxb6604086aMods
