import Derived.Test.Qxb6604226aModsProg
import Derived.WalkKit
import Derived.WalkSpells
import Derived.WalkLawsBesides
import Derived.Deep.QuietTactic
import Derived.BigQuiet
import Derived.Deep.DeepCutAuto
namespace Go.Proofs.Qxb6604226aMods
open Go.RowKit
theorem bytes_yes (s : ByteArray) (w : World) (hs : s.size ≤ 1048576) :
    Calls Trym.prog 18 #[.string s] w fun e w' => e = .returned (.bool true) ∧ w' = w := by
  go_enter Trym.func18, Trym.ntmps18
  go_wp2
  go_ret
  exact ⟨rfl, rfl⟩
theorem bytes_no (s : ByteArray) (w : World) (hs : ¬ s.size ≤ 1048576) (h : s.size ≤ 9223372036854775807) :
    Calls Trym.prog 18 #[.string s] w fun e w' => e = .returned (.bool false) ∧ w' = w := by
  go_enter Trym.func18, Trym.ntmps18
  go_wp2
  go_ret
  exact ⟨rfl, rfl⟩
theorem suffix25 (s : ByteArray) (t : Bool) (w : World) (h0 : 1 ≤ s.size) (h : s.size ≤ 1048576) (ht : ((s.extract (s.size - 1) s.size).toList == [47]) = t) :
    Calls Trym.prog 25 #[.string s, .string ⟨#[47]⟩] w fun e w' => e = .returned (.bool t) ∧ w' = w := by
  go_enter Trym.func25, Trym.ntmps25
  go_wp2
  go_ret
  exact ⟨rfl, rfl⟩
theorem suffix_any (s : ByteArray) (t : Bool) (w : World) (h0 : 1 ≤ s.size) (h : s.size ≤ 1048576) (ht : Hid (((s.extract (s.size - 1) s.size).toList == [47]) = t)) :
    Calls Trym.prog 22 #[.string s, .string ⟨#[47]⟩] w fun e w' => e = .returned (.bool t) ∧ w' = w := by
  go_enter Trym.func22, Trym.ntmps22
  go_wp2_with (go_at_call 25; refine (suffix25 s t _ h0 h ht.out).mono ?_; rintro e w1 ⟨rfl, hw⟩; subst w1)
  go_ret
  exact ⟨rfl, rfl⟩
theorem ext_last (s : ByteArray) (h0 : 1 ≤ s.size) : (s.extract (s.size - 1) s.size).toList = [s[s.size - 1]'(by omega)] := by
  obtain ⟨d⟩ := s
  have h1 : 1 ≤ d.size := h0
  show (ByteArray.extract ⟨d⟩ (d.size - 1) d.size).toList = [d[d.size - 1]]
  rw [ByteArray.toList_eq, ByteArray.data_extract]
  apply List.ext_getElem?
  intro i
  rw [Array.getElem?_toList, Array.getElem?_extract]
  match i with
  | 0 => simp; omega
  | i + 1 => simp; omega
/-- Directory on a text that ends in a slash, or is empty: the text -/
theorem dir_empty (w : World) :
    Calls Trym.prog 17 #[.string ⟨#[]⟩] w fun e w' => e = .returned (.string ⟨#[]⟩) ∧ w' = w := by
  go_enter Trym.func17, Trym.ntmps17
  go_wp2
  go_ret
  exact ⟨rfl, rfl⟩
theorem dir_any (s : ByteArray) (t : Bool) (w : World) (h0 : 1 ≤ s.size) (h : s.size ≤ 1048576) (ht : Hid (((s.extract (s.size - 1) s.size).toList == [47]) = t)) (hne : s.toList.isEmpty = false) :
    Calls Trym.prog 17 #[.string s] w fun e w' => e = .returned (.string (if t then s else s ++ ⟨#[47]⟩)) ∧ w' = w := by
  cases t
  · go_enter Trym.func17, Trym.ntmps17
    go_wp2_with (go_at_call 22; refine (suffix_any s false _ h0 h ht).mono ?_; rintro e w1 ⟨rfl, hw⟩; subst w1)
    go_ret
    exact ⟨rfl, rfl⟩
  · go_enter Trym.func17, Trym.ntmps17
    go_wp2_with (go_at_call 22; refine (suffix_any s true _ h0 h ht).mono ?_; rintro e w1 ⟨rfl, hw⟩; subst w1)
    go_ret
    exact ⟨rfl, rfl⟩
set_option maxHeartbeats 400000 in
theorem prefix_any (s p : ByteArray) (w : World) (hle : p.size ≤ s.size) (hs : s.size ≤ 1048577) (heq : Hid (∀ k (h1 : k < s.size) (h2 : k < p.size), s[k] = p[k])) :
    Calls Trym.prog 13 #[.string s, .string p] w fun e w' => e = .returned (.bool true) ∧ ∃ n, w' = w.drewN n := by
  go_enter Trym.func13, Trym.ntmps13
  go_wp2
  go_loopw [5] (fun i wr => ∃ k n : Nat, k ≤ p.size ∧ i = .int .i64 k ∧ wr = w.drewN n) (fun i _ => p.size - (intOf i).toNat)
  case atStart => exact ⟨0, 0, Nat.zero_le _, rfl, rfl⟩
  case round =>
    obtain ⟨k, n, hk, rfl, rfl⟩ := hrel
    by_cases hlt : k < p.size
    · have hks : k < s.size := by omega
      have hki : (k : Int) < (p.size : Int) := by omega
      have hki2 : (k : Int) < (s.size : Int) := by omega
      have hne : (((s[k]).toNat : Int) != ((p[k]).toNat : Int)) = false := by rw [heq.out k hks hlt]; simp
      go_wp2
      go_quiet (fail)
      go_wp2
      go_roundw
      case rel => first | exact ⟨k + 1, n + nq, by omega, by go_num, by simp⟩ | ((repeat apply Exists.intro); exact ⟨⟨k + 1, n + nq, by omega, by go_num, by simp⟩, rfl⟩)
      case measure => simp [intOf]; omega
    · go_wp2
      go_ret
      exact ⟨rfl, n, rfl⟩
theorem law_empty (w : World) : Calls Trym.prog 5 #[.string ⟨#[]⟩] w fun e w' => e = .returned (.bool true) ∧ ∃ n, w' = w.drewN n := by
  go_enter Trym.func5, Trym.ntmps5
  go_wp2_with (first
    | (go_at_call 18; refine (bytes_yes _ _ (by decide)).mono ?_; rintro e w1 ⟨rfl, hw⟩; subst w1)
    | (go_at_call 17; refine (dir_empty _).mono ?_; rintro e w1 ⟨rfl, hw⟩; subst w1)
    | (go_at_call 13; refine (prefix_any _ _ _ (by decide) (by decide) (fun k h1 h2 => rfl)).mono ?_))
  rintro e w1 ⟨rfl, n, hw⟩
  subst w1
  go_wp2
  go_ret
  exact ⟨rfl, n, rfl⟩
theorem get_app (s : ByteArray) (k : Nat) (h1 : k < (s ++ ⟨#[47]⟩ : ByteArray).size) (h2 : k < s.size) : (s ++ ⟨#[47]⟩ : ByteArray)[k] = s[k] := by
  exact ByteArray.getElem_append_left h2
set_option maxHeartbeats 400000 in
theorem law_slash (s : ByteArray) (w : World) (h0 : 1 ≤ s.size) (h : s.size ≤ 1048576) (hl : Hid (s[s.size - 1]'(by omega) = 47)) (hne : s.toList.isEmpty = false) :
    Calls Trym.prog 5 #[.string s] w fun e w' => e = .returned (.bool true) ∧ ∃ n, w' = w.drewN n := by
  have ht : Hid (((s.extract (s.size - 1) s.size).toList == [47]) = true) := by
    show ((s.extract (s.size - 1) s.size).toList == [47]) = true
    rw [ext_last s h0, hl.out]; rfl
  have hdir := fun w => dir_any s true w h0 h ht hne
  simp only [if_true] at hdir
  have HD : Hid (∀ w, Calls Trym.prog 17 #[.string s] w fun e w' => e = .returned (.string s) ∧ w' = w) := hdir
  clear hdir ht
  have hlt : s.size - 1 < s.size := by omega
  have hb : (((s[s.size - 1]'hlt).toNat : Int) == 47) = true := by rw [hl.out]; rfl
  have hb2 : (((s[s.size - 1]'hlt).toNat : Int) != 47) = false := by rw [hl.out]; rfl
  go_enter Trym.func5, Trym.ntmps5
  go_wp2_with (go_at_call 18; refine (bytes_yes _ _ h).mono ?_; rintro e w1 ⟨rfl, hw⟩; subst w1)
  refine (HD.out _).mono ?_
  rintro e w1 ⟨rfl, hw⟩
  subst w1
  go_wp2_with fail
  refine (prefix_any s s _ (Nat.le_refl _) (by omega) (fun k h1 h2 => rfl)).mono ?_
  rintro e w1 ⟨rfl, n, hw⟩
  subst w1
  go_wp2
  go_ret
  exact ⟨rfl, n, rfl⟩
set_option maxHeartbeats 400000 in
theorem law_plain (s : ByteArray) (w : World) (h0 : 1 ≤ s.size) (h : s.size ≤ 1048576) (hl : Hid (s[s.size - 1]'(by omega) ≠ 47)) (hne : s.toList.isEmpty = false) :
    Calls Trym.prog 5 #[.string s] w fun e w' => e = .returned (.bool true) ∧ ∃ n, w' = w.drewN n := by
  have ht : Hid (((s.extract (s.size - 1) s.size).toList == [47]) = false) := by
    show ((s.extract (s.size - 1) s.size).toList == [47]) = false
    rw [ext_last s h0, beq_eq_false_iff_ne]
    intro hh
    exact hl.out (by injection hh)
  have hdir := fun w => dir_any s false w h0 h ht hne
  obtain ⟨g, hg⟩ : ∃ g, g = s ++ (⟨#[47]⟩ : ByteArray) := ⟨_, rfl⟩
  have hgs : g.size = s.size + 1 := by rw [hg, ByteArray.size_append]; rfl
  have hglt : s.size < g.size := by omega
  have hgl : g[s.size]'hglt = 47 := by
    subst hg
    rw [ByteArray.getElem_append_right (Nat.le_refl _)]
    simp only [Nat.sub_self]
    rfl
  have hgp : Hid (∀ k (h1 : k < g.size) (h2 : k < s.size), g[k] = s[k]) := by
    subst hg
    exact fun k h1 h2 => get_app s k h1 h2
  have hgne : g.toList.isEmpty = false := by
    rw [ByteArray.toList_eq, List.isEmpty_eq_false_iff]
    intro hh
    have : g.data.toList.length = 0 := by rw [hh]; rfl
    have h2 : g.data.toList.length = g.size := Array.length_toList
    omega
  simp only [Bool.false_eq_true, if_false, ← hg] at hdir
  have HD : Hid (∀ w, Calls Trym.prog 17 #[.string s] w fun e w' => e = .returned (.string g) ∧ w' = w) := hdir
  clear hdir ht hg
  have hlt : s.size - 1 < s.size := by omega
  have hb : (((s[s.size - 1]'hlt).toNat : Int) == 47) = false := by
    rw [beq_eq_false_iff_ne]
    intro hh
    apply hl.out
    apply UInt8.toNat.inj
    have : (s[s.size - 1]'hlt).toNat = 47 := by omega
    rw [this]; rfl
  go_enter Trym.func5, Trym.ntmps5
  go_wp2_with (go_at_call 18; refine (bytes_yes _ _ h).mono ?_; rintro e w1 ⟨rfl, hw⟩; subst w1)
  refine (HD.out _).mono ?_
  rintro e w1 ⟨rfl, hw⟩
  subst w1
  go_wp2_with fail
  refine (prefix_any g s _ (by omega) (by omega) hgp).mono ?_
  rintro e w1 ⟨rfl, n, hw⟩
  subst w1
  go_wp2
  go_ret
  exact ⟨rfl, n, rfl⟩
/-- a world that has drawn has at most grown -/
theorem grown_drewN (w : World) (n : Nat) : Grown w (w.drewN n) :=
  ⟨(Below.frame (below_drewN (Below.refl _ _) n) _), fun _ => rfl, Nat.le_refl _⟩
theorem law_all (s : ByteArray) (w : World) (hs : s.size ≤ maxLen) :
    Calls Trym.prog 5 #[.string s] w fun e w' => e = .returned (.bool true) ∧ Grown w w' := by
  have hm : s.size ≤ 9223372036854775807 := by simpa [maxLen] using hs
  clear hs
  by_cases h : s.size ≤ 1048576
  · by_cases h0 : 1 ≤ s.size
    · have hne : s.toList.isEmpty = false := by
        rw [ByteArray.toList_eq, List.isEmpty_eq_false_iff]
        intro hh
        have : s.data.toList.length = 0 := by rw [hh]; rfl
        have h2 : s.data.toList.length = s.size := Array.length_toList
        omega
      by_cases hl : s[s.size - 1]'(by omega) = 47
      · exact (law_slash s w h0 h hl hne).mono fun e w' ⟨h1, n, h2⟩ => ⟨h1, by rw [h2]; exact grown_drewN w n⟩
      · exact (law_plain s w h0 h hl hne).mono fun e w' ⟨h1, n, h2⟩ => ⟨h1, by rw [h2]; exact grown_drewN w n⟩
    · have e : s = ⟨#[]⟩ := by
        obtain ⟨d⟩ := s
        have : d.size = 0 := by have : d.size = (ByteArray.mk d).size := rfl; omega
        rw [Array.eq_empty_of_size_eq_zero this]
      subst e
      exact (law_empty w).mono fun e w' ⟨h1, n, h2⟩ => ⟨h1, by rw [h2]; exact grown_drewN w n⟩
  · go_enter Trym.func5, Trym.ntmps5
    go_wp2_with (go_at_call 18; refine (bytes_no _ _ h hm).mono ?_; rintro e w1 ⟨rfl, hw⟩; subst w1)
    go_ret
    exact ⟨rfl, Grown.refl _⟩
end Go.Proofs.Qxb6604226aMods
