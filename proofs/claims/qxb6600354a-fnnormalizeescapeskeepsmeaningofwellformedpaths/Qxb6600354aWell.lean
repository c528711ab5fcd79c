/-
  THE WALK of b1WellFormedEscapes (seat b6600354a).
-/
import Derived.Test.Qxb6600354aNorm
namespace Go.Proofs.Qxb6600354a
open Go.RowKit
set_option linter.unusedVariables false

theorem hexval_yes (c : UInt8) (w : World) (h : Hid (Pl.hexB c = true)) :
    Calls Try.prog 11 #[.int .u8 c.toNat] w fun e w' => e = .returned (.int .i64 (Pl.hv c)) ∧ w' = w := by
  have := hexval_any c w
  rwa [if_pos h.out] at this

theorem hexval_no (c : UInt8) (w : World) (h : Hid (Pl.hexB c = false)) :
    Calls Try.prog 11 #[.int .u8 c.toNat] w fun e w' => e = .returned (.int .i64 (-1)) ∧ w' = w := by
  have := hexval_any c w
  rwa [if_neg (by rw [h.out]; simp)] at this

theorem wf_at (s : ByteArray) (k : Nat) (h : k < s.size) (R : Bool) (hR : Pl.wf (s.data.toList.drop k) = R) :
    (s[k] ≠ 37 ∨ Pl.esc (s.data.toList.drop k) = true → Pl.wf (s.data.toList.drop (k + 1)) = R) ∧ (s[k] = 37 → Pl.esc (s.data.toList.drop k) = false → R = false) := by
  rw [drop_at s k h] at hR ⊢
  rw [Pl.wf] at hR
  refine ⟨fun hc => ?_, fun h37 he => ?_⟩
  · rcases hc with hc | hc
    · have e : (s[k] == 37) = false := by simpa using hc
      rw [e] at hR
      simpa using hR
    · rw [hc] at hR
      simpa using hR
  · rw [he, h37] at hR
    rw [← hR]
    rfl

set_option maxHeartbeats 1000000 in
theorem well_any (s : ByteArray) (w : World) (hs : s.size ≤ 1048576) :
    Calls Try.prog 6 #[.string s] w fun e w' => e = .returned (.bool (Pl.wf s.data.toList)) ∧ w' = w := by
  generalize hR : Pl.wf s.data.toList = R
  have HR : Hid (Pl.wf (s.data.toList.drop 0) = R) := by simpa [Hid] using hR
  clear hR
  go_enter Try.func6, Try.ntmps6
  go_wp2_with fail
  go_loop [3] (fun i => ∃ k : Nat, k ≤ s.size ∧ i = .int .i64 k ∧ Hid (Pl.wf (s.data.toList.drop k) = R)) (fun i => s.size - (intOf i).toNat)
  case atStart => exact ⟨0, Nat.zero_le _, rfl, HR⟩
  case round =>
    obtain ⟨k, hk, rfl, HK⟩ := hrel
    by_cases hlt : k < s.size
    · have HW := hid (wf_at s k hlt R HK.out)
      by_cases hc : s[k] = 37
      · have hb : ((s[k].toNat : Int) == 37) = true := by rw [hc]; rfl
        have HC := hid hc
        clear hc
        by_cases h2 : k + 2 < s.size
        · have h1 : k + 1 < s.size := by omega
          have hd : decide ((s.size : Int) ≤ (k : Int) + 2) = false := by simp; omega
          have HE : Hid (Pl.esc (s.data.toList.drop k) = (Pl.hexB s[k + 1] && Pl.hexB s[k + 2])) := by
            show Pl.esc (s.data.toList.drop k) = (Pl.hexB s[k + 1] && Pl.hexB s[k + 2])
            rw [drop3 s k h2, HC.out]; rfl
          by_cases ha : Pl.hexB s[k + 1] = true
          · by_cases hbb : Pl.hexB s[k + 2] = true
            · have HN := hid (HW.out.1 (.inr (by rw [HE.out, ha, hbb]; rfl)))
              have HHa := hid ha
              have HHb := hid hbb
              clear ha hbb HW
              go_wp2_with fail
              refine (hexval_yes _ _ HHa).mono ?_
              rintro e w' ⟨rfl, hw⟩
              subst w'
              go_wp2_with fail
              refine (hexval_yes _ _ HHb).mono ?_
              rintro e w' ⟨rfl, hw⟩
              subst w'
              go_wp2_with fail
              go_round
              case rel => exact ⟨k + 1, by omega, by go_num, HN⟩
              case measure => simp [intOf]; omega
            · have hbb' : Pl.hexB s[k + 2] = false := by simpa using hbb
              have HF := hid (HW.out.2 HC.out (by rw [HE.out, ha, hbb']; rfl))
              have HHa := hid ha
              have HHb := hid hbb'
              clear ha hbb hbb' HW
              go_wp2_with fail
              refine (hexval_yes _ _ HHa).mono ?_
              rintro e w' ⟨rfl, hw⟩
              subst w'
              go_wp2_with fail
              refine (hexval_no _ _ HHb).mono ?_
              rintro e w' ⟨rfl, hw⟩
              subst w'
              go_wp2_with fail
              go_ret
              exact ⟨ret_bool HF.out.symm, rfl⟩
          · have ha' : Pl.hexB s[k + 1] = false := by simpa using ha
            have HF := hid (HW.out.2 HC.out (by rw [HE.out, ha']; rfl))
            have HHa := hid ha'
            clear ha ha' HW
            go_wp2_with fail
            refine (hexval_no _ _ HHa).mono ?_
            rintro e w' ⟨rfl, hw⟩
            subst w'
            go_wp2_with fail
            go_ret
            exact ⟨ret_bool HF.out.symm, rfl⟩
        · have hd : decide ((s.size : Int) ≤ (k : Int) + 2) = true := by simp; omega
          have HF := hid (HW.out.2 HC.out (esc_short s k h2))
          clear HW
          go_wp2_with fail
          go_ret
          exact ⟨ret_bool HF.out.symm, rfl⟩
      · have hb : ((s[k].toNat : Int) == 37) = false := by
          rw [beq_eq_false_iff_ne]
          intro e
          apply hc
          apply UInt8.toNat_inj.1
          have : s[k].toNat = 37 := by omega
          rw [this]; rfl
        have HN := hid (HW.out.1 (.inl hc))
        clear HW hc
        go_wp2_with fail
        go_round
        case rel => exact ⟨k + 1, by omega, by go_num, HN⟩
        case measure => simp [intOf]; omega
    · obtain rfl : k = s.size := by omega
      have HF : Hid (R = true) := by
        have := HK.out
        rw [List.drop_eq_nil_of_le (by simp)] at this
        exact this.symm
      go_wp2_with fail
      go_ret
      exact ⟨ret_bool HF.out.symm, rfl⟩

end Go.Proofs.Qxb6600354a
