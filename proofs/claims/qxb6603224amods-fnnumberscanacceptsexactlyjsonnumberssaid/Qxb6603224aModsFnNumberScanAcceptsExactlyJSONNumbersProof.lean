/-
  The proof of 'Rows.FnNumberScanAcceptsExactlyJSONNumbersSaid'. The frame was written by the kit's program for this function; the walk lies in the texts that are imported.
-/
import Derived.Test.Qxb6603224aModsRows
import Derived.WalkKit
import Derived.ProofKit
import Derived.OpenShut
import Derived.ShutString
import Derived.ChangeOld
import Derived.Below
import Derived.Test.Qxb6603224aModsScan
namespace Go.Proofs.Qxb6603224aMods.fnNumberScanAcceptsExactlyJSONNumbers
open Go.ChangeShapes Go.WideShapes Go.ChangeAt Go.RowKit
open Go.ChangeMaps (open_string shut_string)
set_option linter.unusedVariables false

theorem own : ownKnob Trym.prog.godebug = none := by kernel_rfl
theorem laidOut : laidOutB Trym.prog = true := by kernel_rfl

/-- WHAT THE WALK IS TOLD OF A SLICE OF INTEGERS THAT CAME IN: it is nil; or it leads to a row of 'cap' cells, the numbers 'zs' (the first 'len' are its elements, the rest its spare room), each fitting its kind. -/
def IsRow (k : IntKind) (w : World) (a : Option Addr) (len cap : Nat) (zs : List Int) : Prop :=
  (a = none ∧ len = 0 ∧ cap = 0 ∧ zs = []) ∨
  ∃ x, a = some x ∧ len ≤ cap ∧ cap ≤ maxLen ∧ zs.length = cap ∧ (∀ i, i < zs.length → w.cell? (x.add i) = some (.int k (zs.getD i 0))) ∧ ∀ n ∈ zs, (Lit.int k n).wf = true

theorem b_yes (a : Option Addr) (len cap : Nat) (w : World) (hl : len ≤ 1048576) :
    Calls Trym.prog 10 #[.slice a len cap] w fun e w' => e = .returned (.bool true) ∧ w' = w := by
  have h := bytes4_any a len cap w (by omega)
  rw [decide_eq_true hl] at h
  exact h
theorem b_no (a : Option Addr) (len cap : Nat) (w : World) (hl : ¬ len ≤ 1048576) (hm : len ≤ 9223372036854775807) :
    Calls Trym.prog 10 #[.slice a len cap] w fun e w' => e = .returned (.bool false) ∧ w' = w := by
  have h := bytes4_any a len cap w hm
  rw [decide_eq_false hl] at h
  exact h
/-! ### STEP 1: THE WALK: the Go text returns true, AND WRITES NOTHING THAT WAS THERE: 'Below w.heap.size w w'' (Derived/Below.lean: '.refl', '.alloc', '.drew', '.setCell' at a new block, '.trans'). Open each 'IsRow' by 'rcases' AHEAD of 'go_enter'; part every test ahead of the walk. -/
set_option maxRecDepth 100000 in
theorem walk (a0 : Option Addr) (len0 cap0 : Nat) (z0 : List Int) (w : World) (w0 : IsRow .u8 w a0 len0 cap0 z0) :
    Calls Trym.prog 4 #[.slice a0 len0 cap0] w fun e w' => e = .returned (.bool true) ∧ Below w.heap.size w w' := by
  rcases w0 with ⟨rfl, rfl, rfl, rfl⟩ | ⟨x, rfl, hlc, hcm, hzl, hcells, -⟩
  · go_enter Trym.func4, Trym.ntmps4
    go_wp2_with (go_at_call 10; refine (b_yes _ _ _ _ (by omega)).mono ?_; rintro e w1 ⟨rfl, hw⟩; subst w1)
    go_ret
    exact ⟨rfl, Below.refl _ _⟩
  · have hcm : cap0 ≤ 9223372036854775807 := by simpa [maxLen] using hcm
    by_cases h1 : len0 ≤ 1048576
    · by_cases h2 : len0 ≤ 65536
      · by_cases h3 : len0 = 0
        · subst h3
          go_enter Trym.func4, Trym.ntmps4
          go_wp2_with (go_at_call 10; refine (b_yes _ _ _ _ (by omega)).mono ?_; rintro e w1 ⟨rfl, hw⟩; subst w1)
          go_ret
          exact ⟨rfl, Below.refl _ _⟩
        · obtain ⟨b, off, rfl, hc⟩ := ints_at hcells (by omega)
          by_cases hs : Plain.fst1 (z0.getD 0 0) = 0
          · have hcell : w.cell? ⟨b, off, none⟩ = some (.int .u8 (z0.getD 0 0)) := hc 0 (by omega)
            obtain ⟨c, hcd⟩ : ∃ c, c = z0.getD 0 0 := ⟨_, rfl⟩
            rw [← hcd] at hcell hs
            clear hcd hc hcells
            obtain ⟨h4, h5⟩ : (c == 45) = false ∧ Plain.dg c = false := by
              rcases fst1_start c with h | h | h | h
              · omega
              · omega
              · omega
              · exact ⟨by simpa using h.1, (dg_not c).2 h.2⟩
            have e3 : ((len0 : Int) == 0) = false := by simp; omega
            clear hs
            go_enter Trym.func4, Trym.ntmps4
            go_wp2_with (first | (go_at_call 10; refine (b_yes _ _ _ _ (by omega)).mono ?_; rintro e w1 ⟨rfl, hw⟩; subst w1) | (go_at_call 11; refine (isDigit_any _ _).mono ?_; rintro e w1 ⟨rfl, hw⟩; subst w1))
            go_ret
            exact ⟨rfl, Below.refl _ _⟩
          · have hb : b < w.heap.size := World.block_lt_of_cell? _ _ (hc 0 (by omega))
            exact scan_main b off len0 cap0 (z0.take len0) w (by rw [List.length_take]; omega) (by omega) h2 hb (fun j hj => by rw [getD_take _ _ _ hj]; exact hc j (by omega)) _ rfl (by rw [getD_take _ _ _ (by omega)]; exact hs)
      · go_enter Trym.func4, Trym.ntmps4
        go_wp2_with (go_at_call 10; refine (b_yes _ _ _ _ (by omega)).mono ?_; rintro e w1 ⟨rfl, hw⟩; subst w1)
        go_ret
        exact ⟨rfl, Below.refl _ _⟩
    · go_enter Trym.func4, Trym.ntmps4
      go_wp2_with (go_at_call 10; refine (b_no _ _ _ _ (by omega) (by omega)).mono ?_; rintro e w1 ⟨rfl, hw⟩; subst w1)
      go_ret
      exact ⟨rfl, Below.refl _ _⟩

/-! ### THE ROW's STEP: WRITTEN OUT: LEAVE IT -/
set_option maxRecDepth 100000 in
theorem lifted (os : Os) (started : os.Started) (H : Type) (enc : TypeId × Value → H) :
    ReturnsInHanded {} Trym.checked os 4 .any (Rows.fnNumberScanAcceptsExactlyJSONNumbersSpec.pre6 enc Trym.prog Trym.f4 Rows.fnNumberScanAcceptsExactlyJSONNumbersRow.domain false) (Rows.fnNumberScanAcceptsExactlyJSONNumbersSpec.post enc Trym.prog Trym.f4 false true false false) := by
  refine returnsInHanded_of_change (C := Trym.checked) own started (by kernel_rfl) Trym.func4
    (ChangeSpec.witness6 (enc := enc) (C := Trym.checked) false ⟨#[], #[.slice none 0 0], []⟩ 8 (by kernel_rfl) (by kernel_rfl) (by kernel_rfl) (by kernel_rfl)) ?_
  intro W base args ds gs before hval0 hW hcnd _
  have hval : ∀ (j : Nat) t v, Trym.f4.params[j]? = some t → args[j]? = some v → Value.okWide Trym.prog W .any base t v := hval0
  have hW' := hW
  obtain ⟨p, q, hA0, hV, rfl, hfz, hnd⟩ := hW
  have hA : DataW.TrodAll enc Trym.prog W 0 (fun _ => true) true Trym.f4.params.toList args.toList ds p := hA0
  rw [Trym.params4] at hA hval
  obtain ⟨v0, vs0, d0, ds0, p0, q0, hargs, rfl, rfl, h0, r0⟩ := trodAll_cons hA
  obtain ⟨rfl, rfl, rfl⟩ := trodAll_nil r0
  obtain rfl : args = #[v0] := by cases args; simp_all
  obtain ⟨rfl, rfl⟩ := trodVars_none hV
  obtain ⟨a0, len0, cap0, rfl⟩ := okWide_slice Trym.underlying22 (hval 0 22 v0 rfl rfl)
  have k0 := h0
  have lt0 : ∀ x ∈ p0, x.block < W.heap.size := by obtain ⟨m, hm⟩ := k0; exact DataW.trod_lt m _ _ _ hm
  obtain ⟨z0, w0⟩ : ∃ zs, IsRow .u8 W a0 len0 cap0 zs := by
    obtain ⟨fuel, hf⟩ := h0
    rcases open_ints Trym.underlying22 Trym.underlying5 (by kernel_rfl) hf with ⟨hcs, _⟩ | ⟨x, l, c, zs, hcs, _, hl, hm, hz, _, hcell, hwz⟩
    · simp [Value.cells] at hcs
      obtain ⟨rfl, rfl, rfl⟩ := hcs
      exact ⟨[], .inl ⟨rfl, rfl, rfl, rfl⟩⟩
    · simp [Value.cells] at hcs
      obtain ⟨rfl, rfl, rfl⟩ := hcs
      exact ⟨zs, .inr ⟨_, rfl, hl, hm, by simpa using hz, hcell, hwz⟩⟩
  clear hA0 hval0
  refine (walk a0 len0 cap0 z0 W w0).mono fun e W' ⟨he, bel⟩ => ?_
  subst he
  exact ⟨_, rfl, _, _, _, [], _, [], hW', trodAll_mk1 (shut_bool Trym.underlying4 _), (trodAll_cons_mk (Below.trod laidOut (by kernel_rfl) (of_decide_eq_true (by kernel_rfl)) k0 bel lt0) trodAll_mk0), rfl, bel.frame _, fun h => by cases h⟩

theorem over : Rows.fnNumberScanAcceptsExactlyJSONNumbersRow.holds Trym.pinned (OpenSpec.ofChange Rows.fnNumberScanAcceptsExactlyJSONNumbersSpec) :=
  OpenClaim.holds_of_wide 4 Trym.f4 rfl rfl rfl rfl rfl rfl rfl ⟨rfl, rfl, rfl, rfl, rfl⟩ rfl rfl rfl rfl rfl (by kernel_rfl) Trym.func4 (by kernel_rfl)
    (of_decide_eq_true (by kernel_rfl)) (by unfold Func.isWrapper; first | (rw [if_pos (by decide +kernel)]; kernel_rfl) | (rw [if_neg (by decide +kernel)]; exact ⟨rfl, rfl⟩))
    (fun os started H enc _ => lifted os started H enc)

/-- ████ THE STATEMENT ████ -/
theorem proved : Rows.FnNumberScanAcceptsExactlyJSONNumbersSaid := over
end Go.Proofs.Qxb6603224aMods.fnNumberScanAcceptsExactlyJSONNumbers
