/-
  THE WALKS of b1HexVal, b1CountByte and of the bounds (seat b6600354a).
-/
import Derived.Test.Qxb6600354aSmall
namespace Go.Proofs.Qxb6600354a
open Go.RowKit
set_option linter.unusedVariables false

theorem bytesA_yes (s : ByteArray) (w : World) (h : s.size ≤ 1048576) :
    Calls Try.prog 5 #[.string s] w fun e w' => e = .returned (.bool true) ∧ w' = w := by
  go_enter Try.func5, Try.ntmps5
  go_wp2
  go_ret
  exact ⟨rfl, rfl⟩

theorem bytesA_no (s : ByteArray) (w : World) (hs : s.size ≤ maxLen) (h : 1048576 < s.size) :
    Calls Try.prog 5 #[.string s] w fun e w' => e = .returned (.bool false) ∧ w' = w := by
  unfold maxLen at hs
  go_enter Try.func5, Try.ntmps5
  go_wp2
  go_ret
  exact ⟨rfl, rfl⟩

theorem bytesB_yes (s : ByteArray) (w : World) (h : s.size ≤ 1048576) :
    Calls Try.prog 9 #[.string s] w fun e w' => e = .returned (.bool true) ∧ w' = w := by
  go_enter Try.func9, Try.ntmps9
  go_wp2
  go_ret
  exact ⟨rfl, rfl⟩

theorem bytesB_no (s : ByteArray) (w : World) (hs : s.size ≤ maxLen) (h : 1048576 < s.size) :
    Calls Try.prog 9 #[.string s] w fun e w' => e = .returned (.bool false) ∧ w' = w := by
  unfold maxLen at hs
  go_enter Try.func9, Try.ntmps9
  go_wp2
  go_ret
  exact ⟨rfl, rfl⟩

theorem take_snoc (s : ByteArray) (k : Nat) (h : k < s.size) : s.data.toList.take (k + 1) = s.data.toList.take k ++ [s[k]] := by
  rw [List.take_succ_eq_append_getElem (by simpa using h)]; rfl

theorem count_any (s : ByteArray) (w : World) (hs : s.size ≤ 1048576) :
    Calls Try.prog 10 #[.string s, .int .u8 37] w fun e w' => e = .returned (.int .i64 (s.data.toList.count 37 : Nat)) ∧ w' = w := by
  generalize hR : s.data.toList.count 37 = R
  have HR := hid hR
  clear hR
  go_enter Try.func10, Try.ntmps10
  go_wp2
  go_loop [5, 6] (fun n i => ∃ k m : Nat, k ≤ s.size ∧ m ≤ k ∧ i = .int .i64 k ∧ n = .int .i64 m ∧ Hid (m = (s.data.toList.take k).count 37)) (fun _ i => s.size - (intOf i).toNat)
  case atStart => exact ⟨0, 0, Nat.zero_le _, Nat.le_refl _, rfl, rfl, rfl⟩
  case round =>
    obtain ⟨k, m, hk, hm, rfl, rfl, HM⟩ := hrel
    by_cases hlt : k < s.size
    · by_cases hc : s[k] = 37
      · have HN : Hid (m + 1 = (s.data.toList.take (k + 1)).count 37) := by
          show m + 1 = (s.data.toList.take (k + 1)).count 37
          rw [take_snoc s k hlt, List.count_append, ← HM.out, hc]
          rfl
        have hb : ((s[k].toNat : Int) == 37) = true := by rw [hc]; rfl
        have HC := hid hc
        clear hc
        go_wp2
        go_round
        case rel => exact ⟨k + 1, m + 1, by omega, by omega, by go_num, by go_num, HN⟩
        case measure => simp [intOf]; omega
      · have HN : Hid (m = (s.data.toList.take (k + 1)).count 37) := by
          show m = (s.data.toList.take (k + 1)).count 37
          rw [take_snoc s k hlt, List.count_append, ← HM.out]
          have : List.count (37 : UInt8) [s[k]] = 0 := by
            rw [List.count_eq_zero]; simpa using Ne.symm hc
          omega
        have hb : ((s[k].toNat : Int) == 37) = false := by
          rw [beq_eq_false_iff_ne]
          intro e
          apply hc
          apply UInt8.toNat_inj.1
          have : s[k].toNat = 37 := by omega
          rw [this]; rfl
        have HC := hid hc
        clear hc
        go_wp2
        go_round
        case rel => exact ⟨k + 1, m, by omega, by omega, by go_num, by go_num, HN⟩
        case measure => simp [intOf]; omega
    · obtain rfl : k = s.size := by omega
      go_wp2
      go_ret
      refine ⟨ret_int ?_, rfl⟩
      rw [HM.out, ← HR.out, List.take_of_length_le (by simp)]

abbrev DG : ByteArray := { data := #[48, 49, 50, 51, 52, 53, 54, 55, 56, 57, 65, 66, 67, 68, 69, 70] }

theorem digit_fin : ∀ k : Fin 16, (DG[k.val]'(k.isLt)).toNat = if k.val < 10 then 48 + k.val else 55 + k.val := by decide

theorem digit_at (k : Nat) (h : k < 16) (h' : k < DG.size) : ((DG[k]'h').toNat : Int) = if k < 10 then 48 + (k : Int) else 55 + (k : Int) := by
  have e := digit_fin ⟨k, h⟩
  simp only at e
  rw [e]
  split <;> omega

/-- b1HexVal: -1, or the digit's value -/
theorem hexval_any (c : UInt8) (w : World) :
    Calls Try.prog 11 #[.int .u8 c.toNat] w fun e w' => e = .returned (.int .i64 (if Pl.hexB c then (Pl.hv c : Int) else -1)) ∧ w' = w := by
  have hlt := c.toNat_lt
  have HV : Hid ((if Pl.hexB c then (Pl.hv c : Int) else -1) = if 48 ≤ (c.toNat : Int) ∧ (c.toNat : Int) ≤ 57 then (c.toNat : Int) - 48 else if 65 ≤ (c.toNat : Int) ∧ (c.toNat : Int) ≤ 70 then (c.toNat : Int) - 55 else if 97 ≤ (c.toNat : Int) ∧ (c.toNat : Int) ≤ 102 then (c.toNat : Int) - 87 else -1) := by
    show (if Pl.hexB c then (Pl.hv c : Int) else -1) = _
    by_cases h : Pl.hexB c = true
    · rw [if_pos h]
      simp only [Pl.hexB, Bool.or_eq_true, Bool.and_eq_true, decide_eq_true_eq] at h
      unfold Pl.hv
      repeat' split
      all_goals omega
    · rw [if_neg h]
      simp only [Pl.hexB, Bool.or_eq_true, Bool.and_eq_true, decide_eq_true_eq] at h
      repeat' split
      all_goals omega
  generalize (if Pl.hexB c then (Pl.hv c : Int) else -1) = y at HV ⊢
  generalize hx : (c.toNat : Int) = x at HV ⊢
  have hx0 : 0 ≤ x := by omega
  have hx1 : x < 256 := by omega
  clear hx hlt
  go_enter Try.func11, Try.ntmps11
  go_wp2
  go_loop [3] (fun i => ∃ k : Nat, k ≤ 16 ∧ i = .int .i64 k ∧ Hid (y = -1 ∨ (k : Int) ≤ y)) (fun i => 16 - (intOf i).toNat)
  case atStart => exact ⟨0, by omega, rfl, by show y = -1 ∨ _; rw [HV.out]; repeat' split <;> omega⟩
  case round =>
    obtain ⟨k, hk, rfl, HK⟩ := hrel
    by_cases hlt : k < 16
    · have hs : k < DG.size := hlt
      have HD := hid (digit_at k hlt hs)
      go_wp2
      · have t1 : (x == ((DG[k]'hs).toNat : Int)) = true := by assumption
        go_ret
        refine ⟨ret_int ?_, rfl⟩
        rw [beq_iff_eq, HD.out] at t1
        rw [HV.out]
        have := HK.out
        rw [HV.out] at this
        clear HV HK HD
        split at t1 <;> omega
      · have t1 : (x == ((DG[k]'hs).toNat : Int)) = false := by assumption
        have t2 : (x == (((DG[k]'hs).toNat : Int) + 32) % 256) = true := by assumption
        have t3 : (10 : Int) ≤ k := by assumption
        go_ret
        refine ⟨ret_int ?_, rfl⟩
        rw [beq_iff_eq, HD.out, if_neg (by omega)] at t2
        rw [HV.out]
        have := HK.out
        rw [HV.out] at this
        omega
      · have t1 : (x == ((DG[k]'hs).toNat : Int)) = false := by assumption
        have t2 : (x == (((DG[k]'hs).toNat : Int) + 32) % 256) = false := by assumption
        have t3 : (10 : Int) ≤ k := by assumption
        rw [beq_eq_false_iff_ne, HD.out, if_neg (by omega)] at t1 t2
        have HN : Hid (y = -1 ∨ ((k + 1 : Nat) : Int) ≤ y) := by
          have := HK.out
          show y = -1 ∨ ((k + 1 : Nat) : Int) ≤ y
          rw [HV.out] at this ⊢
          omega
        go_round
        case rel => exact ⟨k + 1, by omega, by go_num, HN⟩
        case measure => simp [intOf]; omega
      · have t1 : (x == ((DG[k]'hs).toNat : Int)) = false := by assumption
        have t3 : ¬ (10 : Int) ≤ k := by assumption
        rw [beq_eq_false_iff_ne, HD.out, if_pos (by omega)] at t1
        have HN : Hid (y = -1 ∨ ((k + 1 : Nat) : Int) ≤ y) := by
          have := HK.out
          show y = -1 ∨ ((k + 1 : Nat) : Int) ≤ y
          rw [HV.out] at this ⊢
          omega
        go_round
        case rel => exact ⟨k + 1, by omega, by go_num, HN⟩
        case measure => simp [intOf]; omega
    · obtain rfl : k = 16 := by omega
      go_wp2
      go_ret
      refine ⟨ret_int ?_, rfl⟩
      have := HK.out
      rw [HV.out] at this ⊢
      omega

end Go.Proofs.Qxb6600354a
