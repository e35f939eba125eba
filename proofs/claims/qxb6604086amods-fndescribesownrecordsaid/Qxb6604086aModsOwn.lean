import Derived.Test.Qxb6604086aModsDesc
import Derived.Deep.DeepCutAuto
namespace Go.Proofs.Qxb6604086aMods
open Go.RowKit
def Z : List Int := [0, 0, 0, 0, 0, 0, 0, 0, 0, 0, 0, 0, 0, 0, 0, 0, 0, 0, 0, 0, 0, 0, 0, 0, 0, 0, 0, 0, 0, 0, 0, 0]
theorem built32 (kind : Int) : Trym.prog.built 32 [(0, .int .u8 kind)] = some (rec kind Z 0).toArray := by kernel_rfl
theorem alloc32 (w : World) : (Instr.alloc 32 true (.tuple #[])).run Trym.prog w = .ok (.pointer (some ⟨w.heap.size, 0, none⟩)) (w.alloc (.cells (rec 0 Z 0).toArray 32)) := by kernel_rfl
theorem alloc26 (w : World) : (Instr.alloc 26 true (.tuple #[])).run Trym.prog w = .ok (.pointer (some ⟨w.heap.size, 0, none⟩)) (w.alloc (.cells (bys Z).toArray 26)) := by kernel_rfl
theorem rec_one (k : Int) (D : List Int) (ln : Int) : ∀ v ∈ rec k D ln, v.oneCell' = true := by
  intro v hv
  simp only [rec, List.mem_append, List.mem_cons, List.not_mem_nil, or_false] at hv
  rcases hv with (rfl | rfl | rfl | rfl) | h | rfl | rfl
  · rfl
  · rfl
  · rfl
  · rfl
  · exact bys_one D v h
  · rfl
  · rfl
theorem wpList_built {P : Program} {ops : Array Oper} {rest : List Oper} {o : Oper} {a : Act} {w : World} {Q : Exit → Act → World → Prop} (hg : o.guard = none) (t : TypeId) (parts : Array (Nat × Operand)) (ho : o.op = .build t parts) (cells : Array Value)
    (hb : P.built t (parts.map fun (i, x) => (i, a.eval x)).toList = some cells) (h : wpList P ops Q rest (a.put o.dst (.agg cells)) w) : wpList P ops Q (o :: rest) a w :=
  wpList_build hg t parts ho (by rw [hb]; rfl) (by rw [hb]; exact h)
theorem wpList_alloc {P : Program} {ops : Array Oper} {rest : List Oper} {o : Oper} {a : Act} {w w' : World} {Q : Exit → Act → World → Prop} {v : Value} (hw : Region.wanted o (yielded ops a.tmps) = true) (t : TypeId) (ho : o.op = .alloc t)
    (hr : (Instr.alloc t true (.tuple #[])).run P w = .ok v w') (h : wpList P ops Q rest (a.put o.dst v) w') : wpList P ops Q (o :: rest) a w :=
  wpList_value hw (by unfold execOp; simp only [ho, Sem.run_bind, hr, Result.andThen_ok, Sem.run_pure]) h
/-- a whole block written -/
theorem wpList_store_all {P : Program} {ops : Array Oper} {rest : List Oper} {o : Oper} {a : Act} {w w' : World} {Q : Exit → Act → World → Prop}
    (hw : Region.wanted o (yielded ops a.tmps) = true) (ty : TypeId) (x y : Operand) (ho : o.op = .store ty x y)
    (g : Nat) (ds : List Value) (hx : a.eval x = .pointer (some ⟨g, 0, none⟩)) (hy : a.eval y = .agg ds.toArray) (t : TypeId) (old : List Value) (hg : w.heap[g]? = some (.cells old.toArray t (0, 0)))
    (hi : (P.info? ty).map (·.size) = some ds.length) (hold : old.length = ds.length) (h1 : ∀ v ∈ ds, v.oneCell' = true) (hw' : w.setRow g ds.toArray = w') (hdst : o.dst = none)
    (h : wpList P ops Q rest a w') : wpList P ops Q (o :: rest) a w :=
  wpList_store_part hw ty x y ho g 0 ds hx hy t [] old [] (by simpa using hg) rfl hi hold h1 (by rw [hdst]; simp only [List.nil_append, List.append_nil]; rw [hw']; exact h)
theorem flip_nat : ∀ n : Fin 256, ∀ r : Fin 8, bits BinOp.xor IntKind.u8 ((n.val : Nat) : Int) (2 ^ r.val % 256) ≠ ((n.val : Nat) : Int) := by decide +kernel
theorem flip_ne (sv : Int) (r : Nat) (h0 : 0 ≤ sv) (h1 : sv ≤ 255) (hr : r < 8) : bits BinOp.xor IntKind.u8 sv (2 ^ r % 256) ≠ sv := by
  obtain ⟨n, rfl⟩ := Int.eq_ofNat_of_zero_le h0
  exact flip_nat ⟨n, by omega⟩ ⟨r, hr⟩
theorem bys_set (S : List Int) (i : Nat) (v : Int) : (bys S).set i (.int .u8 v) = bys (S.set i v) := by simp [bys, List.map_set]
theorem set_ne (S : List Int) (i : Nat) (v : Int) (hi : i < S.length) (hv : v ≠ S.getD i 0) : (S == S.set i v) = false := by
  rw [beq_eq_false_iff_ne]
  intro h
  apply hv
  have := congrArg (fun l => l.getD i 0) h
  simpa [List.getD, hi] using this.symm
theorem wpList_store_part' {P : Program} {ops : Array Oper} {rest : List Oper} {o : Oper} {a : Act} {w w' : World} {Q : Exit → Act → World → Prop}
    (hw : Region.wanted o (yielded ops a.tmps) = true) (ty : TypeId) (x y : Operand) (ho : o.op = .store ty x y)
    (g off : Nat) (ds : List Value) (hx : a.eval x = .pointer (some ⟨g, off, none⟩)) (hy : a.eval y = .agg ds.toArray) (t : TypeId) (pre old post : List Value) (hg : w.heap[g]? = some (.cells (pre ++ (old ++ post)).toArray t (0, 0))) (hoff : pre.length = off)
    (hi : (P.info? ty).map (·.size) = some ds.length) (hold : old.length = ds.length) (h1 : ∀ v ∈ ds, v.oneCell' = true) (hw' : w.setRow g (pre ++ (ds ++ post)).toArray = w') (hdst : o.dst = none)
    (h : wpList P ops Q rest a w') : wpList P ops Q (o :: rest) a w :=
  wpList_store_part hw ty x y ho g off ds hx hy t pre old post hg hoff hi hold h1 (by rw [hw', hdst]; exact h)
set_option maxRecDepth 100000 in
set_option maxHeartbeats 1000000 in
theorem own_plain (kind length other bit : Int) (S : List Int) (hS : S.length = 32) (hSb : Hid (∀ z ∈ S, (Lit.int .u8 z).wf = true)) (hk : (kind == 7) = false) (hb0 : 0 ≤ bit) (hb1 : bit ≤ 255) (w : World) :
    Calls Trym.prog 5 #[.int .u8 kind, .int .i64 length, .int .i64 other, .agg (bys S).toArray, .int .u8 bit] w fun e w' => e = .returned (.bool true) ∧ Below w.heap.size w w' := by
  have z37 := rec_37 kind Z 0 rfl
  have s37 : (rec kind Z 0).set 37 (.int .i64 length) = rec kind Z length := by rfl
  obtain ⟨A, hA⟩ : ∃ A, A = w.alloc (.cells (bys S).toArray 26) := ⟨_, rfl⟩
  have HAS : Hid (A.heap.size = w.heap.size + 1) := by rw [hA]; exact (by simp : (w.alloc (.cells (bys S).toArray 26)).heap.size = w.heap.size + 1)
  have HA0 : Hid (A.heap[w.heap.size]? = some (.cells (bys S).toArray 26 (0, 0))) := by rw [hA]; exact heap_alloc_new _ _
  go_enter Trym.func5, Trym.ntmps5
  go_upto_region 2 with fail
  rw [← hA]
  have HAE : Hid (A = w.alloc (.cells (bys S).toArray 26)) := hA
  clear hA
  go_upto_region 10 with (first
    | (refine wpList_built rfl 32 _ rfl _ (built32 kind) ?_)
    | (refine wpList_alloc (by rfl) 32 rfl (alloc32 _) ?_)
    | (refine wpList_store_all (w' := A.alloc (.cells (rec kind Z 0).toArray 32)) (by rfl) 32 (.tmp 12) (.tmp 19) rfl A.heap.size (rec kind Z 0) rfl rfl 32 (rec 0 Z 0) (heap_alloc_new _ _) info32 rfl (rec_one _ _ _) (setRow_alloc_at _ _ _ _) rfl ?_))
  have H26 : Hid ((Trym.prog.info? 26).map (·.size) = some (bys S).length) := by show (Trym.prog.info? 26).map (·.size) = some (bys S).length; rw [bys_len, hS]; exact info26
  have H30 : Hid ((Trym.prog.info? 30).map (·.size) = some (bys S).length) := by show (Trym.prog.info? 30).map (·.size) = some (bys S).length; rw [bys_len, hS]; exact info30
  have H32 : Hid ((Trym.prog.info? 32).map (·.size) = some (rec kind S length).length) := by show (Trym.prog.info? 32).map (·.size) = some (rec kind S length).length; rw [rec_len kind S length hS]; exact info32
  have HZS : Hid ((bys Z).length = (bys S).length) := by show (bys Z).length = (bys S).length; rw [bys_len S, hS]; rfl
  have HA1 : Hid (∀ o, (A.alloc o).heap[w.heap.size]? = some (.cells (bys S).toArray 26 (0, 0))) := fun o => by rw [heap_alloc_old _ _ (by rw [HAS.out]; omega)]; exact HA0.out
  go_upto_region 12 with (first
    | (refine wpList_load_part (by rfl) 26 (.tmp 8) rfl w.heap.size 0 rfl 26 _ _ (bys S) _ (HA1.out _) (fun j _ => by simp) Trym.underlying26 rfl H26.out ?_)
    | (refine wpList_store_part' (w' := A.alloc (.cells (rec kind S length).toArray 32)) (by rfl) 30 (.tmp 35) (.tmp 34) rfl A.heap.size 4 (bys S) rfl rfl 32 [.int .u8 kind, .slice none 0 0, .int .u64 0, .int .u64 0] (bys Z) [.int .i64 0, .int .i64 length] (heap_alloc_new _ _) rfl H30.out HZS.out (bys_one _) (setRow_alloc_at _ _ _ _) rfl ?_))
  obtain ⟨V, hV⟩ : ∃ V, V = A.alloc (.cells (rec kind S length).toArray 32) := ⟨_, rfl⟩
  obtain ⟨b1, hb1d⟩ : ∃ b1, b1 = A.heap.size := ⟨_, rfl⟩
  rw [← hV, ← hb1d]
  have HV0 : Hid (V.heap[w.heap.size]? = some (.cells (bys S).toArray 26 (0, 0))) := by rw [hV]; exact HA1.out _
  have HV1 : Hid (V.heap[b1]? = some (.cells (rec kind S length).toArray 32 (0, 0))) := by rw [hV, hb1d]; exact heap_alloc_new _ _
  have HVS : Hid (w.heap.size < V.heap.size ∧ b1 < V.heap.size) := by
    have : V.heap.size = A.heap.size + 1 := by rw [hV]; simp
    have h2 := HAS.out
    exact ⟨by omega, by omega⟩
  have HVB : Hid (Below w.heap.size w V) := by rw [hV, HAE.out]; exact ((Below.refl _ _).alloc (Nat.le_refl _) _).alloc (by simp) _
  clear hV hb1d HA1 HAS HA0 z37 s37 HAE HZS
  clear A
  go_wp2_with (first
    | (refine wpList_load_part (by rfl) 26 (.tmp 8) rfl w.heap.size 0 rfl 26 _ _ (bys S) _ HV0.out (fun j _ => by simp) Trym.underlying26 rfl H26.out ?_)
    | (refine wpList_load_part (by rfl) 32 (.tmp 12) rfl b1 0 rfl 32 _ _ (rec kind S length) _ HV1.out (fun j _ => by simp) Trym.underlying32 rfl H32.out ?_)
    | (go_at_call 7; refine (desc_same kind length hk S S hS hS _).mono ?_))
  rintro e w5 ⟨rfl, hb5⟩
  have e0 : (S == S) = true := by simp
  rw [e0]
  have HW0 : Hid (w5.heap[w.heap.size]? = some (.cells (bys S).toArray 26 (0, 0))) := (hb5.block _ HVS.out.1).trans HV0.out
  have HW1 : Hid (w5.heap[b1]? = some (.cells (rec kind S length).toArray 32 (0, 0))) := (hb5.block _ HVS.out.2).trans HV1.out
  have HWB : Hid (Below V.heap.size V w5) := hb5
  clear hb5 e0
  go_upto_region 14 with fail
  go_cut [51] from 41 to 50 (fun s wx => s = .bool false ∧ Hid (Below V.heap.size V wx))
  case first =>
    by_cases eo : other = length
    · subst eo
      go_wp2_with (first
        | (refine wpList_load_part (by rfl) 26 (.tmp 8) rfl w.heap.size 0 rfl 26 _ _ (bys S) _ HW0.out (fun j _ => by simp) Trym.underlying26 rfl H26.out ?_)
        | (refine wpList_load_part (by rfl) 32 (.tmp 12) rfl b1 0 rfl 32 _ _ (rec kind S other) _ HW1.out (fun j _ => by simp) Trym.underlying32 rfl H32.out ?_)
        | (go_at_call 7; refine (desc_same kind other hk S S hS hS _).mono ?_))
      rintro e w6 ⟨rfl, hb6⟩
      have e0 : (S == S) = true := by simp
      rw [e0]
      have HB6 : Hid (Below V.heap.size V w6) := HWB.out.trans (hb6.mono HWB.out.size)
      clear hb6 e0
      go_wp2
      go_meet
      exact ⟨rfl, HB6⟩
    · have el : (length == other) = false := by simpa using (fun h => eo h.symm)
      have eo' : (other == length) = false := by simpa using eo
      clear eo
      go_wp2_with (first
        | (refine wpList_load_part (by rfl) 26 (.tmp 8) rfl w.heap.size 0 rfl 26 _ _ (bys S) _ HW0.out (fun j _ => by simp) Trym.underlying26 rfl H26.out ?_)
        | (refine wpList_load_part (by rfl) 32 (.tmp 12) rfl b1 0 rfl 32 _ _ (rec kind S length) _ HW1.out (fun j _ => by simp) Trym.underlying32 rfl H32.out ?_)
        | (go_at_call 7; refine (desc_other kind length other hk el S S hS _).mono ?_))
      rintro e w6 ⟨rfl, hb6⟩
      have HB6 : Hid (Below V.heap.size V w6) := HWB.out.trans (hb6.mono HWB.out.size)
      clear hb6
      go_wp2
      go_meet
      exact ⟨rfl, HB6⟩
  case rest =>
  obtain ⟨rfl, HB6⟩ := hcut
  have HX0 : Hid (wc.heap[w.heap.size]? = some (.cells (bys S).toArray 26 (0, 0))) := (HB6.out.block _ HVS.out.1).trans HV0.out
  have HX1 : Hid (wc.heap[b1]? = some (.cells (rec kind S length).toArray 32 (0, 0))) := (HB6.out.block _ HVS.out.2).trans HV1.out
  clear HWB HW0 HW1
  have HZS : Hid ((bys Z).length = (bys S).length) := by show (bys Z).length = (bys S).length; rw [bys_len S, hS]; rfl
  go_upto_region 17 with (first
    | (refine wpList_load_part (by rfl) 26 (.tmp 8) rfl w.heap.size 0 rfl 26 _ _ (bys S) _ HX0.out (fun j _ => by simp) Trym.underlying26 rfl H26.out ?_)
    | (refine wpList_alloc (by rfl) 26 rfl (alloc26 _) ?_)
    | (refine wpList_store_all (w' := wc.alloc (.cells (bys S).toArray 26)) (by rfl) 26 (.tmp 15) (.tmp 52) rfl wc.heap.size (bys S) rfl rfl 26 (bys Z) (heap_alloc_new _ _) H26.out HZS.out (bys_one _) (setRow_alloc_at _ _ _ _) rfl ?_))
  obtain ⟨sv, hsv⟩ : ∃ sv, sv = S.getD (bit / 8).toNat 0 := ⟨_, rfl⟩
  have hidx : (bys S)[(bit / 8).toNat]? = some (.int .u8 sv) := by rw [hsv]; exact bys_at S _ (by omega)
  have HSV : Hid (sv = S.getD (bit / 8).toNat 0) := hsv
  clear hsv
  have HNE : Hid (bits BinOp.xor IntKind.u8 sv (2 ^ (bit % 8).toNat % 256) ≠ sv) := by
    have hb := bounds_u8 (hSb.out (S.getD (bit / 8).toNat 0) (by rw [List.getD_eq_getElem?_getD, List.getElem?_eq_getElem (by omega)]; exact List.getElem_mem _))
    rw [← HSV.out] at hb
    exact flip_ne sv _ hb.1 hb.2 (by omega)
  go_upto_region 18 with fail
  obtain ⟨v, hv⟩ : ∃ v, v = bits BinOp.xor IntKind.u8 sv (2 ^ (bit % 8).toNat % 256) := ⟨_, rfl⟩
  rw [← hv] at HNE
  rw [← hv, bys_set]
  obtain ⟨T, hT⟩ : ∃ T, T = S.set (bit / 8).toNat v := ⟨_, rfl⟩
  have HT : Hid ((S == T) = false ∧ T.length = 32) := by
    rw [hT]
    exact ⟨set_ne S _ v (by omega) (by rw [← HSV.out]; exact HNE.out), by simpa using hS⟩
  rw [← hT]
  have H26T : Hid ((Trym.prog.info? 26).map (·.size) = some (bys T).length) := by show (Trym.prog.info? 26).map (·.size) = some (bys T).length; rw [bys_len, HT.out.2]; exact info26
  have HSZ : Hid (b1 < wc.heap.size) := Nat.lt_of_lt_of_le HVS.out.2 HB6.out.size
  have HY1 : Hid ((wc.alloc (.cells (bys T).toArray 26)).heap[b1]? = some (.cells (rec kind S length).toArray 32 (0, 0))) := (heap_alloc_old _ _ HSZ.out).trans HX1.out
  have HYB : Hid (Below w.heap.size w (wc.alloc (.cells (bys T).toArray 26))) := (HVB.out.trans (HB6.out.mono HVB.out.size)).alloc (Nat.le_trans HVB.out.size HB6.out.size) _
  clear hv hT HNE HSV hidx HX0 HX1 HZS HV0 HV1
  go_wp2_with (first
    | (refine wpList_load_part (by rfl) 26 (.tmp 15) rfl wc.heap.size 0 rfl 26 _ _ (bys T) _ (heap_alloc_new _ _) (fun j _ => by simp) Trym.underlying26 rfl H26T.out ?_)
    | (refine wpList_load_part (by rfl) 32 (.tmp 12) rfl b1 0 rfl 32 _ _ (rec kind S length) _ HY1.out (fun j _ => by simp) Trym.underlying32 rfl H32.out ?_)
    | (go_at_call 7; refine (desc_same kind length hk S T hS HT.out.2 _).mono ?_))
  rintro e w7 ⟨rfl, hb7⟩
  rw [HT.out.1]
  have HB7 : Hid (Below w.heap.size w w7) := HYB.out.trans (hb7.mono HYB.out.size)
  clear hb7
  go_wp2
  go_ret
  exact ⟨rfl, HB7.out⟩
end Go.Proofs.Qxb6604086aMods
