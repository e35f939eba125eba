import Derived.Test.Qxb6603224aModsLeaf
import Derived.Deep.DeepCutAuto
namespace Go.Proofs.Qxb6603224aMods
open Go.RowKit Plain
theorem retP {zs : List Int} {st : Int} {bv : Bool} (h : dst zs = st) (hb : (st != 0) = bv) : Ending.returned (.tuple #[.int .u8 st, .bool bv]) = Ending.returned (.tuple #[.int .u8 (dst zs), .bool (dst zs != 0)]) := by rw [h, hb]
theorem stp10 (c : Int) : stp 10 c = if c = 48 then 11 else if 48 ≤ c ∧ c ≤ 57 then 12 else 0 := by
  unfold stp; rw [n10]; repeat' split
  all_goals rfl
theorem whole {zs : List Int} {p len : Nat} {st : Int} (hz : zs.length = len) (h : dst (zs.take p) = st) (hp : len ≤ p) : dst zs = st := by
  rw [← h, List.take_of_length_le (by omega)]
theorem dead {zs : List Int} {p : Nat} {c : Int} (s : Int) (h : dst (zs.take p) = s) (h0 : 0 < p) (hp : p < zs.length) (hc : c = zs.getD p 0) (hs : stp s c = 0) : dst zs = 0 := by
  apply dst_dead zs (p + 1) (by omega)
  rw [dst_take zs p h0 hp, h, ← List.getD_eq_getElem?_getD, ← hc, hs]
theorem next {zs : List Int} {p : Nat} {c : Int} (s t : Int) (h : dst (zs.take p) = s) (h0 : 0 < p) (hp : p < zs.length) (hc : c = zs.getD p 0) (hs : stp s c = t) : dst (zs.take (p + 1)) = t := by
  rw [dst_take zs p h0 hp, h, ← List.getD_eq_getElem?_getD, ← hc, hs]
def eE (c : Int) : Int := if c = 101 ∨ c = 69 then 15 else 0
theorem s11 (c : Int) (h : ¬ c = 46) : stp 11 c = eE c := by unfold stp eE; rw [n11, if_neg h]; split <;> rfl
theorem s12 (c : Int) (h : ¬ c = 46) (hd : dg c = false) : stp 12 c = eE c := by
  unfold stp eE; rw [n12, if_neg (by simpa [dg] using hd), if_neg h]; split <;> rfl
theorem s14 (c : Int) (hd : dg c = false) : stp 14 c = eE c := by
  unfold stp eE; rw [n14, if_neg (by simpa [dg] using hd)]; split <;> rfl
theorem s1x46 (st : Int) (h : st = 11 ∨ st = 12) : stp st 46 = 13 := by rcases h with rfl | rfl <;> rfl
theorem s13 (c : Int) : stp 13 c = if dg c = true then 14 else 0 := by
  unfold stp; rw [n13]; by_cases h : 48 ≤ c ∧ c ≤ 57
  · rw [if_pos h, if_pos (by simpa [dg] using h)]
  · rw [if_neg h, if_neg (by simpa [dg] using h)]
theorem s15 (c : Int) (h : c = 43 ∨ c = 45) : stp 15 c = 16 := by unfold stp; rw [n15, if_pos h]
theorem s15' (c : Int) (h : ¬ (c = 43 ∨ c = 45)) : stp 15 c = if dg c = true then 17 else 0 := by
  unfold stp; rw [n15, if_neg h]; by_cases h : 48 ≤ c ∧ c ≤ 57
  · rw [if_pos h, if_pos (by simpa [dg] using h)]
  · rw [if_neg h, if_neg (by simpa [dg] using h)]
theorem s16 (c : Int) : stp 16 c = if dg c = true then 17 else 0 := by
  unfold stp; rw [n16]; by_cases h : 48 ≤ c ∧ c ≤ 57
  · rw [if_pos h, if_pos (by simpa [dg] using h)]
  · rw [if_neg h, if_neg (by simpa [dg] using h)]
theorem s17 (c : Int) (hd : dg c = false) : stp 17 c = 0 := by
  unfold stp; rw [n17, if_neg (by simpa [dg] using hd)]
/-- a run of digits from p on has been read up to q -/
def Inv (zs : List Int) (p q : Nat) (S : Int) : Prop := p ≤ q ∧ (q = p ∨ dst (zs.take q) = S)
theorem Inv.start (zs : List Int) (p : Nat) (S : Int) : Inv zs p p S := ⟨Nat.le_refl _, .inl rfl⟩
theorem Inv.step {zs : List Int} {p q : Nat} {S d : Int} (h : Inv zs p q S) (hf : dst (zs.take (p + 1)) = S) (hS : ∀ c, dg c = true → stp S c = S) (hq : q < zs.length) (hd : d = zs.getD q 0) (hg : dg d = true) : Inv zs p (q + 1) S := by
  refine ⟨by have := h.1; omega, .inr ?_⟩
  by_cases e : q = p
  · subst e; exact hf
  · rcases h.2 with h2 | h2
    · exact absurd h2 e
    · exact next S S h2 (by have := h.1; omega) hq hd (hS d hg)
theorem Inv.out {zs : List Int} {p q : Nat} {S : Int} (h : Inv zs p q S) (hp : p < zs.length) (hg : dg (zs.getD p 0) = true) (hx : q < zs.length → dg (zs.getD q 0) = false) : p < q ∧ dst (zs.take q) = S := by
  have : q ≠ p := by
    intro e; subst e
    rw [hx hp] at hg; cases hg
  exact ⟨by have := h.1; omega, h.2.resolve_left this⟩
theorem dg_iff (c : Int) : dg c = true ↔ 48 ≤ c ∧ c ≤ 57 := by simp [dg]
theorem dg_not (c : Int) : dg c = false ↔ ¬ (48 ≤ c ∧ c ≤ 57) := by simp only [dg, decide_eq_false_iff_not]
theorem stay12 (c : Int) (h : dg c = true) : stp 12 c = 12 := by unfold stp; rw [n12, if_pos ((dg_iff c).1 h)]
theorem stay14 (c : Int) (h : dg c = true) : stp 14 c = 14 := by unfold stp; rw [n14, if_pos ((dg_iff c).1 h)]
theorem stay17 (c : Int) (h : dg c = true) : stp 17 c = 17 := by unfold stp; rw [n17, if_pos ((dg_iff c).1 h)]
set_option maxRecDepth 100000 in
set_option maxHeartbeats 1000000 in
theorem parse_any (b off len cap : Nat) (zs : List Int) (w : World) (hz : zs.length = len) (h0 : 0 < len) (hl : len ≤ 1048576) (hc : ∀ j, j < len → w.cell? ⟨b, off + j, none⟩ = some (.int .u8 (zs.getD j 0))) :
    Calls Trym.prog 12 #[.slice (some ⟨b, off, none⟩) len cap] w fun e w' => e = .returned (.tuple #[.int .u8 (dst zs), .bool (dst zs != 0)]) ∧ w' = w := by
  have HZ : Hid (zs.length = len) := hz
  clear hz
  obtain ⟨c0, hc0⟩ : ∃ c, c = zs.getD 0 0 := ⟨_, rfl⟩
  have hcell : w.cell? ⟨b, off, none⟩ = some (.int .u8 c0) := by rw [hc0]; exact hc 0 h0
  have HC0 : Hid (c0 = zs.getD 0 0) := hc0
  clear hc0
  have HCS : Hid (∀ j, j < len → w.cell? ⟨b, off + j, none⟩ = some (.int .u8 (zs.getD j 0))) := hc
  clear hc
  have HD1 : Hid (dst (zs.take 1) = fst1 c0) := by
    have e : c0 = zs.getD 0 0 := HC0
    show dst (zs.take 1) = fst1 c0
    rw [dst_take1 zs (by have : zs.length = len := HZ; omega), e, List.getD_eq_getElem?_getD]
  go_enter Trym.func12, Trym.ntmps12
  go_upto_if 18 with fail
  go_cut [5] from 7 to 23 (fun s5 wx => wx = w ∧ ∃ p : Nat, p < len ∧ s5 = .int .i64 p ∧ Hid (dst (zs.take (p + 1)) = stp 10 (zs.getD p 0)))
  case first =>
    by_cases e45 : c0 = 45
    · have eb : (c0 == 45) = true := by simpa using e45
      have HF : Hid (dst (zs.take 1) = 10) := by
        have e : dst (zs.take 1) = fst1 c0 := HD1
        show dst (zs.take 1) = 10
        rw [e, e45]; rfl
      clear e45 HD1 HC0
      by_cases h1 : 1 < len
      · have hb : ((1 : Int) == (len : Int)) = false := by simp; omega
        go_wp2
        go_meet
        exact ⟨rfl, 1, h1, rfl, next 10 _ HF.out (by omega) (by have := HZ.out; omega) rfl rfl⟩
      · have hb : ((1 : Int) == (len : Int)) = true := by simp; omega
        go_wp2
        go_ret2
        exact ⟨retP (whole HZ.out HF.out (by omega)) rfl, rfl⟩
    · have eb : (c0 == 45) = false := by simpa using e45
      have HF : Hid (dst (zs.take (0 + 1)) = stp 10 (zs.getD 0 0)) := by
        have e : dst (zs.take 1) = fst1 c0 := HD1
        have e2 : c0 = zs.getD 0 0 := HC0
        show dst (zs.take 1) = stp 10 (zs.getD 0 0)
        rw [e, ← e2, stp10, fst1, if_neg e45]
      clear e45 HD1 HC0
      go_wp2
      go_meet
      exact ⟨rfl, 0, h0, rfl, HF⟩
  case rest =>
    obtain ⟨rfl, p, hp, rfl, HP⟩ := hcut
    clear HD1 HC0 hcell c0
    obtain ⟨c, hcd⟩ : ∃ c, c = zs.getD p 0 := ⟨_, rfl⟩
    have hcell : wc.cell? ⟨b, off + p, none⟩ = some (.int .u8 c) := by rw [hcd]; exact HCS.out p hp
    have HC : Hid (c = zs.getD p 0) := hcd
    clear hcd
    have hpn : ((p : Int) == (len : Int)) = false := by simp; omega
    obtain ⟨t, eb⟩ : ∃ t, (c == 48) = t := ⟨_, rfl⟩
    go_upto_if 31 with fail
    go_cut [5, 6] from 24 to 57 (fun s5 s6 wx => wx = wc ∧ ∃ (p : Nat) (st : Int), p ≤ len ∧ s5 = .int .i64 p ∧ s6 = .int .u8 st ∧ Hid (0 < p ∧ dst (zs.take p) = st ∧ (st = 11 ∨ (st = 12 ∧ (p < len → dg (zs.getD p 0) = false)))))
    case first =>
      cases t
      case true =>
        have e48 : c = 48 := by simpa using eb
        have HF : Hid (dst (zs.take (p + 1)) = 11) := by
          have e : dst (zs.take (p + 1)) = stp 10 (zs.getD p 0) := HP
          show dst (zs.take (p + 1)) = 11
          rw [e, ← HC.out, stp10, if_pos e48]
        clear e48 HP HC
        go_wp2
        go_meet
        exact ⟨rfl, p + 1, 11, by omega, by go_num, rfl, by omega, HF.out, .inl rfl⟩
      case false =>
        have e48 : ¬ c = 48 := by simpa using eb
        by_cases hd : 49 ≤ c ∧ c ≤ 57
        · obtain ⟨h49, h57⟩ := hd
          have HF : Hid (dst (zs.take (p + 1)) = 12) := by
            have e : dst (zs.take (p + 1)) = stp 10 (zs.getD p 0) := HP
            show dst (zs.take (p + 1)) = 12
            rw [e, ← HC.out, stp10, if_neg e48, if_pos (by omega)]
          have HDG : Hid (dg (zs.getD p 0) = true) := by
            show dg (zs.getD p 0) = true
            rw [← HC.out]; simp [dg, h57]; omega
          clear e48 HP HC
          go_wp2
          go_loop [5] (fun s5 => ∃ q : Nat, q ≤ len ∧ s5 = .int .i64 q ∧ Hid (Inv zs p q 12)) (fun s5 => len - (intOf s5).toNat)
          case atStart => exact ⟨p, by omega, rfl, Inv.start _ _ _⟩
          case round =>
            obtain ⟨q, hq, rfl, HQ⟩ := hrel
            clear hcell eb h49 h57 hpn
            by_cases hlt : q < len
            · obtain ⟨d, hdd⟩ : ∃ d, d = zs.getD q 0 := ⟨_, rfl⟩
              have hcq : wc.cell? ⟨b, off + q, none⟩ = some (.int .u8 d) := by rw [hdd]; exact HCS.out q hlt
              by_cases hdg : dg d = true
              · have HN : Hid (Inv zs p (q + 1) 12) := HQ.out.step HF.out stay12 (by have := HZ.out; omega) hdd hdg
                clear hdd
                go_wp2_with (go_at_call 11; refine (isDigit_any _ _).mono ?_; rintro e w' ⟨rfl, rfl⟩)
                go_round
                case rel => exact ⟨q + 1, by omega, by go_num, HN⟩
                case measure => simp [intOf]; omega
              · have hdf : dg d = false := by simpa using hdg
                have HO : Hid (p < q ∧ dst (zs.take q) = 12) := HQ.out.out (by have := HZ.out; omega) HDG.out (fun _ => by rw [← hdd]; exact hdf)
                have HE : Hid (q < len → dg (zs.getD q 0) = false) := fun _ => by rw [← hdd]; exact hdf
                clear hdd hdg
                go_wp2_with (go_at_call 11; refine (isDigit_any _ _).mono ?_; rintro e w' ⟨rfl, rfl⟩)
                go_meet
                exact ⟨rfl, q, 12, hq, rfl, rfl, by have := HO.out.1; omega, HO.out.2, .inr ⟨rfl, HE.out⟩⟩
            · have HO : Hid (p < q ∧ dst (zs.take q) = 12) := HQ.out.out (by have := HZ.out; omega) HDG.out (fun h => by have := HZ.out; omega)
              have HE : Hid (q < len → dg (zs.getD q 0) = false) := fun h => absurd h hlt
              go_wp2
              go_meet
              exact ⟨rfl, q, 12, hq, rfl, rfl, by have := HO.out.1; omega, HO.out.2, .inr ⟨rfl, HE.out⟩⟩
        · have HF : Hid (dst zs = 0) := by
            show dst zs = 0
            refine dst_dead zs (p + 1) (by omega) ?_
            rw [HP.out, ← HC.out, stp10, if_neg e48, if_neg (by omega)]
          clear HP HC
          by_cases h49 : 49 ≤ c
          · have h57 : ¬ c ≤ 57 := fun h => hd ⟨h49, h⟩
            clear hd e48
            go_wp2
            go_ret2
            exact ⟨retP HF.out rfl, rfl⟩
          · clear hd e48
            go_wp2
            go_ret2
            exact ⟨retP HF.out rfl, rfl⟩
    case rest =>
      obtain ⟨rfl, p2, st, hp2, rfl, rfl, HS⟩ := hcut
      clear HP HC hcell hpn hp eb
      clear c p t
      by_cases hlt : p2 < len
      · have hpn : ((p2 : Int) == (len : Int)) = false := by simp; omega
        obtain ⟨c, hcd⟩ : ∃ c, c = zs.getD p2 0 := ⟨_, rfl⟩
        have hcell := HCS.out p2 hlt
        rw [← hcd] at hcell
        have HC : Hid (c = zs.getD p2 0) := hcd
        clear hcd
        obtain ⟨t, eb⟩ : ∃ t, (c == 46) = t := ⟨_, rfl⟩
        go_upto_if 66 with fail
        go_cut [5] from 58 to 92 (fun s5 wx => wx = wc ∧ ∃ p : Nat, p < len ∧ s5 = .int .i64 p ∧ Hid (0 < p ∧ stp (dst (zs.take p)) (zs.getD p 0) = eE (zs.getD p 0)))
        case first =>
          cases t
          case true =>
            have e46 : c = 46 := by simpa using eb
            have H13 : Hid (dst (zs.take (p2 + 1)) = 13) := by
              have h := HS.out
              refine next st 13 h.2.1 h.1 (by have := HZ.out; omega) HC.out ?_
              rw [e46]; exact s1x46 st (by rcases h.2.2 with h | h; exact .inl h; exact .inr h.1)
            clear e46 HC HS eb
            by_cases hl1 : p2 + 1 < len
            · have hpn1 : ((p2 : Int) + 1 == (len : Int)) = false := by simp; omega
              obtain ⟨c1, hcd1⟩ : ∃ c, c = zs.getD (p2 + 1) 0 := ⟨_, rfl⟩
              have hcell1 := HCS.out (p2 + 1) hl1
              rw [← hcd1] at hcell1
              by_cases hd1 : dg c1 = true
              · have HF : Hid (dst (zs.take (p2 + 1 + 1)) = 14) := next 13 14 H13.out (by omega) (by have := HZ.out; omega) hcd1 (by rw [s13, if_pos hd1])
                have HDG : Hid (dg (zs.getD (p2 + 1) 0) = true) := by show dg (zs.getD (p2 + 1) 0) = true; rw [← hcd1]; exact hd1
                clear hcd1
                go_wp2_with (go_at_call 11; refine (isDigit_any _ _).mono ?_; rintro e w' ⟨rfl, rfl⟩)
                go_loop [5] (fun s5 => ∃ q : Nat, q ≤ len ∧ s5 = .int .i64 q ∧ Hid (Inv zs (p2 + 1) q 14)) (fun s5 => len - (intOf s5).toNat)
                case atStart => exact ⟨(p2 + 1), by omega, by go_num, Inv.start _ _ _⟩
                case round =>
                  obtain ⟨q, hq, rfl, HQ⟩ := hrel
                  clear hcell hcell1 hd1 hpn1 hpn
                  by_cases hlt : q < len
                  · obtain ⟨d, hdd⟩ : ∃ d, d = zs.getD q 0 := ⟨_, rfl⟩
                    have hcq := HCS.out q hlt
                    rw [← hdd] at hcq
                    by_cases hdg : dg d = true
                    · have HN : Hid (Inv zs (p2 + 1) (q + 1) 14) := HQ.out.step HF.out stay14 (by have := HZ.out; omega) hdd hdg
                      clear hdd
                      go_wp2_with (go_at_call 11; refine (isDigit_any _ _).mono ?_; rintro e w' ⟨rfl, rfl⟩)
                      go_round
                      case rel => exact ⟨q + 1, by omega, by go_num, HN⟩
                      case measure => simp [intOf]; omega
                    · have hdf : dg d = false := by simpa using hdg
                      have HO : Hid ((p2 + 1) < q ∧ dst (zs.take q) = 14) := HQ.out.out (by have := HZ.out; omega) HDG.out (fun _ => by rw [← hdd]; exact hdf)
                      have HE : Hid (dg (zs.getD q 0) = false) := by show dg (zs.getD q 0) = false; rw [← hdd]; exact hdf
                      have hqn : ((q : Int) == (len : Int)) = false := by simp; omega
                      clear hdd hdg
                      go_wp2_with (go_at_call 11; refine (isDigit_any _ _).mono ?_; rintro e w' ⟨rfl, rfl⟩)
                      go_meet
                      exact ⟨rfl, q, hlt, rfl, by have := HO.out.1; omega, by rw [HO.out.2]; exact s14 _ HE.out⟩
                  · have HO : Hid ((p2 + 1) < q ∧ dst (zs.take q) = 14) := HQ.out.out (by have := HZ.out; omega) HDG.out (fun h => by have := HZ.out; omega)
                    have hqn : ((q : Int) == (len : Int)) = true := by simp; omega
                    go_wp2
                    go_ret2
                    exact ⟨retP (whole HZ.out HO.out.2 (by omega)) rfl, rfl⟩
              · have hd1' : dg c1 = false := by simpa using hd1
                have HF : Hid (dst zs = 0) := dead 13 H13.out (by omega) (by have := HZ.out; omega) hcd1 (by rw [s13, if_neg hd1])
                clear hcd1 hd1
                go_wp2_with (go_at_call 11; refine (isDigit_any _ _).mono ?_; rintro e w' ⟨rfl, rfl⟩)
                go_ret2
                exact ⟨retP HF.out rfl, rfl⟩
            · have hpn1 : ((p2 : Int) + 1 == (len : Int)) = true := by simp; omega
              go_wp2
              go_ret2
              exact ⟨retP (whole HZ.out H13.out (by omega)) rfl, rfl⟩
          case false =>
            have e46 : ¬ c = 46 := by simpa using eb
            have HF : Hid (0 < p2 ∧ stp (dst (zs.take p2)) (zs.getD p2 0) = eE (zs.getD p2 0)) := by
              have h := HS.out
              refine ⟨h.1, ?_⟩
              rw [← HC.out, h.2.1]
              rcases h.2.2 with h | h
              · rw [h]; exact s11 c e46
              · rw [h.1]; exact s12 c e46 (by rw [HC.out]; exact h.2 hlt)
            clear e46 HC HS
            go_wp2
            go_meet
            exact ⟨rfl, p2, hlt, rfl, HF⟩
        case rest =>
          obtain ⟨rfl, p3, hp3, rfl, HT⟩ := hcut
          clear HC HS hcell hpn hlt hp2 eb
          clear c t p2
          obtain ⟨c, hcd⟩ : ∃ c, c = zs.getD p3 0 := ⟨_, rfl⟩
          have hcell := HCS.out p3 hp3
          rw [← hcd] at hcell
          by_cases he : c = 101 ∨ c = 69
          · have H15 : Hid (dst (zs.take (p3 + 1)) = 15) := by
              refine next _ 15 rfl HT.out.1 (by have := HZ.out; omega) hcd ?_
              rw [hcd, HT.out.2, ← hcd, eE, if_pos he]
            clear hcd HT
            go_upto_region 30 with fail
            go_cut [104] from 93 to 103 (fun s wx => wx = wc ∧ s = .bool true)
            case first =>
              by_cases h : c = 101
              · have e1 : (c == 101) = true := by simpa using h
                clear h he
                go_wp2
                go_meet
                exact ⟨rfl, rfl⟩
              · have e1 : (c == 101) = false := by simpa using h
                have e2 : (c == 69) = true := by simp; omega
                clear h he
                go_wp2
                go_meet
                exact ⟨rfl, rfl⟩
            case rest =>
            obtain ⟨rfl, rfl⟩ := hcut
            clear hcell he
            clear c
            by_cases hl1 : p3 + 1 < len
            · have hpn1 : ((p3 : Int) + 1 == (len : Int)) = false := by simp; omega
              obtain ⟨c1, hcd1⟩ : ∃ c, c = zs.getD (p3 + 1) 0 := ⟨_, rfl⟩
              have hcell1 := HCS.out (p3 + 1) hl1
              rw [← hcd1] at hcell1
              have HC : Hid (c1 = zs.getD (p3 + 1) 0) := hcd1
              clear hcd1
              go_upto_region 34 with fail
              go_cut [121] from 105 to 120 (fun s wx => wx = wc ∧ ∃ t, s = .bool t ∧ Hid (decide (c1 = 43 ∨ c1 = 45) = t))
              case first =>
                by_cases h1 : c1 = 43
                · have e1 : (c1 == 43) = true := by simpa using h1
                  have HT : Hid (decide (c1 = 43 ∨ c1 = 45) = true) := by show decide (c1 = 43 ∨ c1 = 45) = true; simp [h1]
                  clear h1
                  go_wp2
                  go_meet
                  exact ⟨rfl, true, rfl, HT⟩
                · have e1 : (c1 == 43) = false := by simpa using h1
                  by_cases h2 : c1 = 45
                  · have e2 : (c1 == 45) = true := by simpa using h2
                    have HT : Hid (decide (c1 = 43 ∨ c1 = 45) = true) := by show decide (c1 = 43 ∨ c1 = 45) = true; simp [h2]
                    clear h1 h2
                    go_wp2
                    go_meet
                    exact ⟨rfl, true, rfl, HT⟩
                  · have e2 : (c1 == 45) = false := by simpa using h2
                    have HT : Hid (decide (c1 = 43 ∨ c1 = 45) = false) := by show decide (c1 = 43 ∨ c1 = 45) = false; simp [h1, h2]
                    clear h1 h2
                    go_wp2
                    go_meet
                    exact ⟨rfl, false, rfl, HT⟩
              case rest =>
              obtain ⟨rfl, t, rfl, HT⟩ := hcut
              clear hcell1 hpn1
              go_upto_if 121 with fail
              go_cut [5] from 122 to 126 (fun s5 wx => wx = wc ∧ ∃ p : Nat, p < len ∧ s5 = .int .i64 p ∧ Hid (0 < p ∧ stp (dst (zs.take p)) (zs.getD p 0) = if dg (zs.getD p 0) = true then 17 else 0))
              case first =>
                cases t
                case true =>
                  have H16 : Hid (dst (zs.take (p3 + 1 + 1)) = 16) := next 15 16 H15.out (by omega) (by have := HZ.out; omega) HC.out (s15 c1 (by simpa using HT.out))
                  clear HT HC H15
                  by_cases hl2 : p3 + 1 + 1 < len
                  · have hpn2 : ((p3 : Int) + 1 + 1 == (len : Int)) = false := by simp; omega
                    go_wp2
                    go_meet
                    exact ⟨rfl, p3 + 1 + 1, hl2, by go_num, by omega, by rw [H16.out]; exact s16 _⟩
                  · have hpn2 : ((p3 : Int) + 1 + 1 == (len : Int)) = true := by simp; omega
                    go_wp2
                    go_ret2
                    exact ⟨retP (whole HZ.out H16.out (by omega)) rfl, rfl⟩
                case false =>
                  have HF : Hid (0 < p3 + 1 ∧ stp (dst (zs.take (p3 + 1))) (zs.getD (p3 + 1) 0) = if dg (zs.getD (p3 + 1) 0) = true then 17 else 0) :=
                    ⟨by omega, by rw [H15.out, ← HC.out]; exact s15' c1 (by simpa using HT.out)⟩
                  clear HT HC H15
                  go_wp2
                  go_meet
                  exact ⟨rfl, p3 + 1, hl1, by go_num, HF⟩
              case rest =>
              obtain ⟨rfl, p4, hp4, rfl, HP4⟩ := hcut
              clear HT HC H15 hl1 hp3
              obtain ⟨c4, hcd4⟩ : ∃ c, c = zs.getD p4 0 := ⟨_, rfl⟩
              have hcell4 := HCS.out p4 hp4
              rw [← hcd4] at hcell4
              by_cases hd4 : dg c4 = true
              · have HF : Hid (dst (zs.take (p4 + 1)) = 17) := next _ 17 rfl HP4.out.1 (by have := HZ.out; omega) hcd4 (by rw [hcd4, HP4.out.2, ← hcd4, if_pos hd4])
                have HDG : Hid (dg (zs.getD p4 0) = true) := by show dg (zs.getD p4 0) = true; rw [← hcd4]; exact hd4
                clear hcd4
                go_wp2_with (go_at_call 11; refine (isDigit_any _ _).mono ?_; rintro e w' ⟨rfl, rfl⟩)
                go_loop [5] (fun s5 => ∃ q : Nat, q ≤ len ∧ s5 = .int .i64 q ∧ Hid (Inv zs p4 q 17)) (fun s5 => len - (intOf s5).toNat)
                case atStart => exact ⟨p4, by omega, by go_num, Inv.start _ _ _⟩
                case round =>
                  obtain ⟨q, hq, rfl, HQ⟩ := hrel
                  clear hcell4 hd4
                  by_cases hlt : q < len
                  · obtain ⟨d, hdd⟩ : ∃ d, d = zs.getD q 0 := ⟨_, rfl⟩
                    have hcq := HCS.out q hlt
                    rw [← hdd] at hcq
                    by_cases hdg : dg d = true
                    · have HN : Hid (Inv zs p4 (q + 1) 17) := HQ.out.step HF.out stay17 (by have := HZ.out; omega) hdd hdg
                      clear hdd
                      go_wp2_with (go_at_call 11; refine (isDigit_any _ _).mono ?_; rintro e w' ⟨rfl, rfl⟩)
                      go_round
                      case rel => exact ⟨q + 1, by omega, by go_num, HN⟩
                      case measure => simp [intOf]; omega
                    · have hdf : dg d = false := by simpa using hdg
                      have HO : Hid (p4 < q ∧ dst (zs.take q) = 17) := HQ.out.out (by have := HZ.out; omega) HDG.out (fun _ => by rw [← hdd]; exact hdf)
                      have HE : Hid (dg (zs.getD q 0) = false) := by show dg (zs.getD q 0) = false; rw [← hdd]; exact hdf
                      have hqn : ((q : Int) == (len : Int)) = false := by simp; omega
                      clear hdd hdg
                      go_wp2_with (go_at_call 11; refine (isDigit_any _ _).mono ?_; rintro e w' ⟨rfl, rfl⟩)
                      go_ret2
                      exact ⟨retP (dead 17 HO.out.2 (by have := HO.out.1; omega) (by have := HZ.out; omega) rfl (s17 _ HE.out)) rfl, rfl⟩
                  · have HO : Hid (p4 < q ∧ dst (zs.take q) = 17) := HQ.out.out (by have := HZ.out; omega) HDG.out (fun h => by have := HZ.out; omega)
                    have hqn : ((q : Int) == (len : Int)) = true := by simp; omega
                    go_wp2
                    go_ret2
                    exact ⟨retP (whole HZ.out HO.out.2 (by omega)) rfl, rfl⟩
              · have hd4' : dg c4 = false := by simpa using hd4
                have HF : Hid (dst zs = 0) := dead _ rfl HP4.out.1 (by have := HZ.out; omega) hcd4 (by rw [hcd4, HP4.out.2, ← hcd4, if_neg hd4])
                clear hcd4 hd4
                go_wp2_with (go_at_call 11; refine (isDigit_any _ _).mono ?_; rintro e w' ⟨rfl, rfl⟩)
                go_ret2
                exact ⟨retP HF.out rfl, rfl⟩
            · have hpn1 : ((p3 : Int) + 1 == (len : Int)) = true := by simp; omega
              go_wp2
              go_ret2
              exact ⟨retP (whole HZ.out H15.out (by omega)) rfl, rfl⟩
          · have e1 : (c == 101) = false := by simp; omega
            have e2 : (c == 69) = false := by simp; omega
            have HF : Hid (dst zs = 0) := by
              refine dead _ rfl HT.out.1 (by have := HZ.out; omega) hcd ?_
              rw [hcd, HT.out.2, ← hcd, eE, if_neg he]
            clear he hcd HT
            go_wp2
            go_ret2
            exact ⟨retP HF.out rfl, rfl⟩
      · have hpn : ((p2 : Int) == (len : Int)) = true := by simp; omega
        have HF : Hid (dst zs = st ∧ (st != 0) = true) := by
          have h := HS.out
          exact ⟨whole HZ.out h.2.1 (by omega), by rcases h.2.2 with h | h; rw [h]; rfl; rw [h.1]; rfl⟩
        go_wp2
        go_ret2
        exact ⟨retP HF.out.1 HF.out.2, rfl⟩
end Go.Proofs.Qxb6603224aMods
