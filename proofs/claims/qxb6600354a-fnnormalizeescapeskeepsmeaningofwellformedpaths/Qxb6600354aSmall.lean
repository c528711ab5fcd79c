/-
  THE WALKS OF THE SMALL FUNCTIONS of seat b6600354a: isHex, unhex, upperHex, isUnreserved, b1HexVal, b1CountByte, the bounds.
-/
import Derived.Test.Qxb6600354aProg
import Derived.Test.Qxb6600354aPlain
import Derived.WalkKit
import Derived.WalkSpells
import Derived.WalkLawsBesides
import Derived.Deep.QuietTactic
import Derived.BigQuiet
import Derived.Deep.LoopGhost
namespace Go.Proofs.Qxb6600354a
open Go.RowKit
set_option linter.unusedVariables false

theorem hid {p : Prop} (h : p) : Hid p := h
theorem ret_bool {a b : Bool} (h : a = b) : Ending.returned (.bool a) = .returned (.bool b) := by rw [h]
theorem ret_int {k : IntKind} {a b : Int} (h : a = b) : Ending.returned (.int k a) = .returned (.int k b) := by rw [h]

theorem isHex_yes (x : Int) (w : World) (h : (48 ≤ x ∧ x ≤ 57) ∨ (97 ≤ x ∧ x ≤ 102) ∨ (65 ≤ x ∧ x ≤ 70)) :
    Calls Try.prog 15 #[.int .u8 x] w fun e w' => e = .returned (.bool true) ∧ w' = w := by
  rcases h with ⟨h1, h2⟩ | ⟨h1, h2⟩ | ⟨h1, h2⟩
  all_goals
    go_enter Try.func15, Try.ntmps15
    go_wp2
    go_ret
    exact ⟨rfl, rfl⟩

theorem isHex_no (x : Int) (w : World) (h : ¬ ((48 ≤ x ∧ x ≤ 57) ∨ (97 ≤ x ∧ x ≤ 102) ∨ (65 ≤ x ∧ x ≤ 70))) :
    Calls Try.prog 15 #[.int .u8 x] w fun e w' => e = .returned (.bool false) ∧ w' = w := by
  rcases (show x < 48 ∨ (57 < x ∧ x < 65) ∨ (70 < x ∧ x < 97) ∨ 102 < x from by omega) with h1 | ⟨h1, h2⟩ | ⟨h1, h2⟩ | h1
  all_goals
    clear h
    go_enter Try.func15, Try.ntmps15
    go_wp2
    go_ret
    refine ⟨ret_bool ?_, rfl⟩
    first | rfl | (simp; omega)

theorem isHex_v (c : UInt8) (v : Bool) (w : World) (h : Hid (Pl.hexB c = v)) :
    Calls Try.prog 15 #[.int .u8 c.toNat] w fun e w' => e = .returned (.bool v) ∧ w' = w := by
  have h := h.out
  unfold Pl.hexB at h
  cases v with
  | true => exact isHex_yes _ w (by simp at h; omega)
  | false => exact isHex_no _ w (by simp at h; omega)

theorem unhex_v (c : UInt8) (w : World) (h : Hid (Pl.hexB c = true)) :
    Calls Try.prog 17 #[.int .u8 c.toNat] w fun e w' => e = .returned (.int .u8 (Pl.hv c)) ∧ w' = w := by
  have h := h.out
  unfold Pl.hexB at h
  have h' : (48 ≤ (c.toNat : Int) ∧ (c.toNat : Int) ≤ 57) ∨ (97 ≤ (c.toNat : Int) ∧ (c.toNat : Int) ≤ 102) ∨ (65 ≤ (c.toNat : Int) ∧ (c.toNat : Int) ≤ 70) := by simp at h; omega
  have HV : Hid ((Pl.hv c : Int) = if (c.toNat : Int) ≤ 57 then (c.toNat : Int) - 48 else if (c.toNat : Int) ≤ 70 then (c.toNat : Int) - 55 else (c.toNat : Int) - 87) := by
    show (Pl.hv c : Int) = _
    unfold Pl.hv
    repeat' split
    all_goals omega
  generalize (Pl.hv c : Int) = y at HV ⊢
  generalize (c.toNat : Int) = x at h' HV ⊢
  clear h
  rcases h' with ⟨h1, h2⟩ | ⟨h1, h2⟩ | ⟨h1, h2⟩
  all_goals
    go_enter Try.func17, Try.ntmps17
    go_wp2
    go_ret
    refine ⟨ret_int ?_, rfl⟩
    rw [HV.out]
    repeat' split
    all_goals omega

theorem upper_v (c : UInt8) (w : World) :
    Calls Try.prog 19 #[.int .u8 c.toNat] w fun e w' => e = .returned (.int .u8 (Pl.up c).toNat) ∧ w' = w := by
  have hlt := c.toNat_lt
  have HV : Hid (((Pl.up c).toNat : Int) = if 97 ≤ (c.toNat : Int) ∧ (c.toNat : Int) ≤ 102 then (c.toNat : Int) - 32 else (c.toNat : Int)) := by
    show ((Pl.up c).toNat : Int) = _
    unfold Pl.up
    split
    · rw [if_pos (by omega)]
      simp
      omega
    · rw [if_neg (by omega)]
  generalize ((Pl.up c).toNat : Int) = y at HV ⊢
  generalize hx : (c.toNat : Int) = x at HV ⊢
  have hx0 : 0 ≤ x := by omega
  have hx1 : x < 256 := by omega
  clear hx hlt
  rcases (show x < 97 ∨ (97 ≤ x ∧ x ≤ 102) ∨ 102 < x from by omega) with h1 | ⟨h1, h2⟩ | h1
  all_goals
    go_enter Try.func19, Try.ntmps19
    go_wp2
    go_ret
    refine ⟨ret_int ?_, rfl⟩
    rw [HV.out]
    split <;> omega

theorem unres_v (c : UInt8) (v : Bool) (w : World) (h : Hid (Pl.unres c = v)) :
    Calls Try.prog 18 #[.int .u8 c.toNat] w fun e w' => e = .returned (.bool v) ∧ w' = w := by
  have hlt := c.toNat_lt
  have H : Hid (v = (decide (97 ≤ (c.toNat : Int)) && decide ((c.toNat : Int) ≤ 122) || decide (65 ≤ (c.toNat : Int)) && decide ((c.toNat : Int) ≤ 90) || decide (48 ≤ (c.toNat : Int)) && decide ((c.toNat : Int) ≤ 57) || (c.toNat : Int) == 45 || (c.toNat : Int) == 46 || (c.toNat : Int) == 95 || (c.toNat : Int) == 126)) := by
    show v = _
    rw [← h.out]
    unfold Pl.unres
    rw [Bool.eq_iff_iff]
    simp only [Bool.or_eq_true, Bool.and_eq_true, decide_eq_true_eq, beq_iff_eq]
    omega
  clear h
  generalize hx : (c.toNat : Int) = x at H ⊢
  have hx0 : 0 ≤ x := by omega
  have hx1 : x < 256 := by omega
  clear hx hlt
  go_enter Try.func18, Try.ntmps18
  go_wp2
  all_goals go_ret
  all_goals refine ⟨ret_bool ?_, rfl⟩
  all_goals rw [H.out]
  all_goals first | (symm; simp only [Bool.or_eq_true, Bool.and_eq_true, decide_eq_true_eq, beq_iff_eq]; omega) | (rw [Bool.eq_iff_iff]; simp only [Bool.or_eq_true, Bool.and_eq_true, decide_eq_true_eq, beq_iff_eq]; omega)

end Go.Proofs.Qxb6600354a
