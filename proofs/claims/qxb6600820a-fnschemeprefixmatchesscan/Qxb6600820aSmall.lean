/-
  THE WALKS OF THE SMALL FUNCTIONS of seat b6600820a.
-/
import Derived.Test.Qxb6600820aProg
import Derived.Test.Qxb6600820aPlain
import Derived.WalkKit
import Derived.WalkSpells
import Derived.WalkLawsBesides
namespace Go.Proofs.Qxb6600820a
open Go.RowKit
set_option linter.unusedVariables false

theorem hid {p : Prop} (h : p) : Hid p := h
theorem ret_bool {a b : Bool} (h : a = b) : Ending.returned (.bool a) = .returned (.bool b) := by rw [h]

theorem bytes_yes (s : ByteArray) (w : World) (h : s.size ≤ 1048576) :
    Calls Try.prog 7 #[.string s] w fun e w' => e = .returned (.bool true) ∧ w' = w := by
  go_enter Try.func7, Try.ntmps7
  go_wp2
  go_ret
  exact ⟨rfl, rfl⟩

theorem bytes_no (s : ByteArray) (w : World) (hs : s.size ≤ maxLen) (h : 1048576 < s.size) :
    Calls Try.prog 7 #[.string s] w fun e w' => e = .returned (.bool false) ∧ w' = w := by
  unfold maxLen at hs
  go_enter Try.func7, Try.ntmps7
  go_wp2
  go_ret
  exact ⟨rfl, rfl⟩

theorem isLetter_v (c : UInt8) (v : Bool) (w : World) (h : Hid (Pl.letter c = v)) :
    Calls Try.prog 20 #[.int .u8 c.toNat] w fun e w' => e = .returned (.bool v) ∧ w' = w := by
  have H : Hid (v = (decide (97 ≤ (c.toNat : Int)) && decide ((c.toNat : Int) ≤ 122) || decide (65 ≤ (c.toNat : Int)) && decide ((c.toNat : Int) ≤ 90))) := by
    show v = _
    rw [← h.out]
    unfold Pl.letter
    rw [Bool.eq_iff_iff]
    simp only [Bool.or_eq_true, Bool.and_eq_true, decide_eq_true_eq]
    omega
  clear h
  generalize (c.toNat : Int) = x at H ⊢
  go_enter Try.func20, Try.ntmps20
  go_wp2
  all_goals go_ret
  all_goals refine ⟨ret_bool ?_, rfl⟩
  all_goals rw [H.out]
  all_goals first | (symm; simp only [Bool.or_eq_true, Bool.and_eq_true, decide_eq_true_eq]; omega) | (rw [Bool.eq_iff_iff]; simp; omega) | (symm; simp; omega)

theorem lawIsLetter_v (c : UInt8) (v : Bool) (w : World) (h : Hid (Pl.letter c = v)) :
    Calls Try.prog 17 #[.int .u8 c.toNat] w fun e w' => e = .returned (.bool v) ∧ w' = w := by
  have H : Hid (v = (decide (97 ≤ (c.toNat : Int)) && decide ((c.toNat : Int) ≤ 122) || decide (65 ≤ (c.toNat : Int)) && decide ((c.toNat : Int) ≤ 90))) := by
    show v = _
    rw [← h.out]
    unfold Pl.letter
    rw [Bool.eq_iff_iff]
    simp only [Bool.or_eq_true, Bool.and_eq_true, decide_eq_true_eq]
    omega
  clear h
  generalize (c.toNat : Int) = x at H ⊢
  go_enter Try.func17, Try.ntmps17
  go_wp2
  all_goals go_ret
  all_goals refine ⟨ret_bool ?_, rfl⟩
  all_goals rw [H.out]
  all_goals first | (symm; simp only [Bool.or_eq_true, Bool.and_eq_true, decide_eq_true_eq]; omega) | (rw [Bool.eq_iff_iff]; simp; omega) | (symm; simp; omega)

theorem isAlnum_v (c : UInt8) (v : Bool) (w : World) (h : Hid (Pl.alnum c = v)) :
    Calls Try.prog 21 #[.int .u8 c.toNat] w fun e w' => e = .returned (.bool v) ∧ w' = w := by
  by_cases hl : Pl.letter c = true
  · have HV : Hid (v = true) := by
      show v = true
      rw [← h.out]; unfold Pl.alnum; rw [hl]; rfl
    have HL := hid hl
    clear hl h
    go_enter Try.func21, Try.ntmps21
    go_wp2_with fail
    refine (isLetter_v c true _ HL).mono ?_
    rintro e w' ⟨rfl, hw⟩
    subst w'
    go_wp2_with fail
    go_ret
    exact ⟨ret_bool HV.out.symm, rfl⟩
  · have hl' : Pl.letter c = false := by simpa using hl
    have H : Hid (v = (decide (48 ≤ (c.toNat : Int)) && decide ((c.toNat : Int) ≤ 57))) := by
      show v = _
      rw [← h.out]
      unfold Pl.alnum
      rw [hl', Bool.eq_iff_iff]
      simp only [Bool.or_eq_true, Bool.and_eq_true, decide_eq_true_eq, Bool.false_eq_true, false_or]
      omega
    have HL := hid hl'
    clear hl hl' h
    go_enter Try.func21, Try.ntmps21
    go_wp2_with fail
    refine (isLetter_v c false _ HL).mono ?_
    rintro e w' ⟨rfl, hw⟩
    subst w'
    go_wp2_with fail
    all_goals go_ret
    all_goals refine ⟨ret_bool ?_, rfl⟩
    all_goals rw [H.out]
    all_goals first | (symm; simp only [Bool.and_eq_true, decide_eq_true_eq]; omega) | (rw [Bool.eq_iff_iff]; simp; omega) | (symm; simp; omega)

theorem lawIsTail_v (c : UInt8) (v : Bool) (w : World) (h : Hid (Pl.tail c = v)) :
    Calls Try.prog 18 #[.int .u8 c.toNat] w fun e w' => e = .returned (.bool v) ∧ w' = w := by
  by_cases hl : Pl.letter c = true
  · have HV : Hid (v = true) := by
      show v = true
      rw [← h.out]; unfold Pl.tail Pl.alnum; rw [hl]; rfl
    have HL := hid hl
    clear hl h
    go_enter Try.func18, Try.ntmps18
    go_wp2_with fail
    refine (lawIsLetter_v c true _ HL).mono ?_
    rintro e w' ⟨rfl, hw⟩
    subst w'
    go_wp2_with fail
    go_ret
    exact ⟨ret_bool HV.out.symm, rfl⟩
  · have hl' : Pl.letter c = false := by simpa using hl
    have H : Hid (v = (decide (48 ≤ (c.toNat : Int)) && decide ((c.toNat : Int) ≤ 57) || (c.toNat : Int) == 43 || (c.toNat : Int) == 45 || (c.toNat : Int) == 46)) := by
      show v = _
      rw [← h.out]
      unfold Pl.tail Pl.alnum
      rw [hl', Bool.eq_iff_iff]
      simp only [Bool.or_eq_true, Bool.and_eq_true, decide_eq_true_eq, beq_iff_eq, Bool.false_eq_true, false_or]
      omega
    have HL := hid hl'
    clear hl hl' h
    go_enter Try.func18, Try.ntmps18
    go_wp2_with fail
    refine (lawIsLetter_v c false _ HL).mono ?_
    rintro e w' ⟨rfl, hw⟩
    subst w'
    generalize (c.toNat : Int) = x at H ⊢
    go_wp2_with fail
    all_goals go_ret
    all_goals refine ⟨ret_bool ?_, rfl⟩
    all_goals rw [H.out]
    all_goals first | (symm; simp only [Bool.or_eq_true, Bool.and_eq_true, decide_eq_true_eq, beq_iff_eq]; omega) | (rw [Bool.eq_iff_iff]; simp; omega) | (symm; simp; omega)

end Go.Proofs.Qxb6600820a
