/-
  THE WALKS of skipBlankLines, ZZSkipBlankLines (seat b6600070a).
-/
import Derived.Test.Qxb6600070aSkip
namespace Go.Proofs.Qxb6600070a
open Go.RowKit
set_option linter.unusedVariables false

set_option maxHeartbeats 1000000 in
theorem skipBlank_any (pb n c k : Nat) (sa : Option Addr) (xs : List Int) (w w0 : World) (hI : PInv w0 pb sa n c xs k w) (hk : k ≤ n) :
    Calls Try.prog 14 #[.pointer (some ⟨pb, 0, none⟩)] w fun e w' => e = .returned (.tuple #[]) ∧ PInv w0 pb sa n c xs (Pl.scan false k k (xs.drop k) : Nat) w' := by
  have hx := hI.txt.len
  have hn := hI.txt.small
  have HX := hid hx
  clear hx
  generalize hR : Pl.scan false k k (xs.drop k) = R
  have HR := hid hR
  clear hR
  go_enter Try.func14, Try.ntmps14
  go_wp2
  go_loopg [2] (n - k) (fun g s2 wr => ∃ q : Nat, q ≤ n ∧ g = n - q ∧ PInv w0 pb sa n c xs q wr ∧ Hid (Pl.scan false q q (xs.drop q) = R))
  case atStart => exact ⟨k, hk, rfl, hI, HR⟩
  case round =>
    obtain ⟨q, hq, hg, hP, HS⟩ := hrel
    have HP := hid hP
    have h1 := hP.pos
    have h2 := hP.src
    have h3 := hP.free
    clear hP hI
    go_wp2
    go_loop [2] (fun i => ∃ j : Nat, q ≤ j ∧ j ≤ n ∧ i = .int .i64 j ∧ Hid (Pl.scan false q j (xs.drop j) = R)) (fun i => n - (intOf i).toNat)
    case atStart => exact ⟨q, Nat.le_refl _, hq, rfl, HS⟩
    case round =>
      obtain ⟨j, hqj, hjn, rfl, HJ⟩ := hrel
      generalize hv : xs[j]?.getD 0 = v
      have HV := hid hv
      clear hv
      by_cases hb : Pl.blank v = true
      · have hlt : j < n := by
          rcases Nat.lt_or_ge j n with h | h
          · exact h
          · exfalso
            have e := HV.out
            rw [List.getElem?_eq_none (by have := HX.out; omega)] at e
            simp at e
            subst e
            simp [Pl.blank] at hb
        have HJ1 : Hid (Pl.scan false q (j + 1) (xs.drop (j + 1)) = R) := by
          have e := Pl.scan_blank xs q j (by rw [HV.out]; exact hb)
          exact e.symm.trans HJ.out
        have HB := hid hb
        clear hb
        go_wp2_with fail
        refine (at_v pb n c j sa xs _ v w0 _ HV HP.out).mono ?_
        rintro e w' ⟨rfl, rfl⟩
        go_wp2_with fail
        refine (isBlank_yes _ _ HB.out).mono ?_
        rintro e w' ⟨rfl, rfl⟩
        go_wp2_with fail
        go_round
        case rel => exact ⟨j + 1, by omega, by omega, by go_num, HJ1⟩
        case measure => simp [intOf]; omega
      · have hb' : Pl.blank v = false := by simpa using hb
        have HB := hid hb'
        clear hb hb'
        go_wp2_with fail
        refine (at_v pb n c j sa xs _ v w0 _ HV HP.out).mono ?_
        rintro e w' ⟨rfl, rfl⟩
        go_wp2_with fail
        refine (isBlank_no _ _ HB.out).mono ?_
        rintro e w' ⟨rfl, rfl⟩
        go_wp2_with fail
        refine (at_v pb n c j sa xs _ v w0 _ HV HP.out).mono ?_
        rintro e w' ⟨rfl, rfl⟩
        have HP1 := hid (HP.out.store j)
        by_cases hz : v = 0
        · have hfin : R = j := by
            have e := Pl.scan_zero xs q j (by have := HX.out; omega) (by rw [HV.out]; exact hz)
            exact HJ.out.symm.trans e
          have HF := hid hfin
          clear hfin
          subst hz
          go_wp2_with fail
          refine (at_v pb n c j sa xs _ 0 w0 _ HV HP1.out).mono ?_
          rintro e w' ⟨rfl, rfl⟩
          go_wp2_with fail
          refine (at_v pb n c j sa xs _ 0 w0 _ HV HP1.out).mono ?_
          rintro e w' ⟨rfl, rfl⟩
          go_wp2_with fail
          refine bodyPost_ret (results_none rfl _ _ _) rfl ?_
          rw [HF.out]
          exact ⟨rfl, HP1.out⟩
        · have hlt : j < n := by
            rcases Nat.lt_or_ge j n with h | h
            · exact h
            · exfalso
              have e := HV.out
              rw [List.getElem?_eq_none (by have := HX.out; omega)] at e
              simp at e
              exact hz e.symm
          have hz' : (v == 0) = false := by simpa using hz
          by_cases hcom : v = 10 ∨ v = 35
          · have hge := Pl.ix_ge (xs.drop j)
            have hl := Pl.ix_lt (xs.drop j)
            rw [List.length_drop, HX.out] at hl
            obtain ⟨m, hm⟩ : ∃ m, Pl.ix (xs.drop j) = m := ⟨_, rfl⟩
            rw [hm] at hge hl
            have hvj : xs[j]?.getD 0 = 10 ∨ xs[j]?.getD 0 = 35 := by rw [HV.out]; exact hcom
            by_cases hm1 : m = -1
            · subst hm1
              have HM := hid hm
              have hfin : R = n := by
                have e := Pl.scan_lost xs q j hvj hm
                exact HJ.out.symm.trans (e.trans HX.out)
              have HF := hid hfin
              have HN : Hid (xs[n]?.getD 0 = 0) := by
                show xs[n]?.getD 0 = 0
                rw [List.getElem?_eq_none (by have := HX.out; omega)]; rfl
              have HE : Hid (Pl.scan false n n (xs.drop n) = R) := by
                show Pl.scan false n n (xs.drop n) = R
                rw [Pl.drop_end xs n (by have := HX.out; omega), hfin]; rfl
              clear hfin hvj hm hge hl
              rcases hcom with rfl | rfl
              · go_wp2_with fail
                refine (at_v pb n c j sa xs _ 10 w0 _ HV HP.out).mono ?_
                rintro e w' ⟨rfl, rfl⟩
                go_wp2_with fail
                refine (toEnd_lost pb n c j sa xs _ w0 HP1.out hlt HM).mono ?_
                rintro e w2 ⟨rfl, hP2⟩
                have HP2 := hid hP2
                clear hP2
                go_wp2_with fail
                refine (ch_v pb n c n sa xs 0 w0 _ HN HP2.out).mono ?_
                rintro e w' ⟨rfl, rfl⟩
                go_wp2_with fail
                go_roundg 0
                case measure => omega
                case rel => exact ⟨n, Nat.le_refl _, by omega, HP2.out, HE⟩
              · go_wp2_with fail
                refine (at_v pb n c j sa xs _ 35 w0 _ HV HP.out).mono ?_
                rintro e w' ⟨rfl, rfl⟩
                go_wp2_with fail
                refine (at_v pb n c j sa xs _ 35 w0 _ HV HP.out).mono ?_
                rintro e w' ⟨rfl, rfl⟩
                go_wp2_with fail
                refine (toEnd_lost pb n c j sa xs _ w0 HP1.out hlt HM).mono ?_
                rintro e w2 ⟨rfl, hP2⟩
                have HP2 := hid hP2
                clear hP2
                go_wp2_with fail
                refine (ch_v pb n c n sa xs 0 w0 _ HN HP2.out).mono ?_
                rintro e w' ⟨rfl, rfl⟩
                go_wp2_with fail
                go_roundg 0
                case measure => omega
                case rel => exact ⟨n, Nat.le_refl _, by omega, HP2.out, HE⟩
            · obtain ⟨k', rfl⟩ : ∃ k' : Nat, m = k' := ⟨m.toNat, by omega⟩
              have HM := hid hm
              have HE : Hid (Pl.scan false (j + k' + 1) (j + k' + 1) (xs.drop (j + k' + 1)) = R) := by
                have e := Pl.scan_found xs q j k' hvj hm
                exact e.symm.trans HJ.out
              have HN : Hid (xs[j + k']?.getD 0 = 10) := Pl.ix_at_drop xs j k' hm
              have hle : j + k' + 1 ≤ n := by omega
              clear hvj hm hge hl hm1
              rcases hcom with rfl | rfl
              · go_wp2_with fail
                refine (at_v pb n c j sa xs _ 10 w0 _ HV HP.out).mono ?_
                rintro e w' ⟨rfl, rfl⟩
                go_wp2_with fail
                refine (toEnd_found pb n c j k' sa xs _ w0 HP1.out hlt HM).mono ?_
                rintro e w2 ⟨rfl, hP2⟩
                have HP2 := hid hP2
                have g1 := hP2.pos
                have g3 := hP2.free
                clear hP2
                go_wp2_with fail
                refine (ch_v pb n c (j + k') sa xs 10 w0 _ HN HP2.out).mono ?_
                rintro e w' ⟨rfl, rfl⟩
                go_wp2_with fail
                go_roundg (n - (j + k' + 1))
                case measure => omega
                case rel => exact ⟨j + k' + 1, hle, rfl, HP2.out.store _, HE⟩
              · go_wp2_with fail
                refine (at_v pb n c j sa xs _ 35 w0 _ HV HP.out).mono ?_
                rintro e w' ⟨rfl, rfl⟩
                go_wp2_with fail
                refine (at_v pb n c j sa xs _ 35 w0 _ HV HP.out).mono ?_
                rintro e w' ⟨rfl, rfl⟩
                go_wp2_with fail
                refine (toEnd_found pb n c j k' sa xs _ w0 HP1.out hlt HM).mono ?_
                rintro e w2 ⟨rfl, hP2⟩
                have HP2 := hid hP2
                have g1 := hP2.pos
                have g3 := hP2.free
                clear hP2
                go_wp2_with fail
                refine (ch_v pb n c (j + k') sa xs 10 w0 _ HN HP2.out).mono ?_
                rintro e w' ⟨rfl, rfl⟩
                go_wp2_with fail
                go_roundg (n - (j + k' + 1))
                case measure => omega
                case rel => exact ⟨j + k' + 1, hle, rfl, HP2.out.store _, HE⟩
          · have h10 : v ≠ 10 := fun h => hcom (.inl h)
            have h35 : v ≠ 35 := fun h => hcom (.inr h)
            have hfin : R = q := by
              have e := Pl.scan_other xs q j (by rw [HV.out]; exact HB.out) (by rw [HV.out]; exact hz) (by rw [HV.out]; exact h10) (by rw [HV.out]; exact h35)
              exact HJ.out.symm.trans e
            have HF := hid hfin
            have b10 : (v != 10) = true := by simpa using h10
            have b35 : (v != 35) = true := by simpa using h35
            clear hfin hcom h10 h35 hz
            go_wp2_with fail
            refine (at_v pb n c j sa xs _ v w0 _ HV HP.out).mono ?_
            rintro e w' ⟨rfl, rfl⟩
            go_wp2_with fail
            refine (at_v pb n c j sa xs _ v w0 _ HV HP.out).mono ?_
            rintro e w' ⟨rfl, rfl⟩
            go_wp2_with fail
            refine bodyPost_ret (results_none rfl _ _ _) rfl ?_
            rw [HF.out]
            exact ⟨rfl, HP.out⟩

end Go.Proofs.Qxb6600070a
