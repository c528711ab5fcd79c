/-
  normalizeEscapes at every string; ZZNormalizeEscapes (seat b6600354a).
-/
import Derived.Test.Qxb6600354aNorm
namespace Go.Proofs.Qxb6600354a
open Go.RowKit
set_option linter.unusedVariables false

theorem normalize_bare (s : ByteArray) (w : World) (hp : Lib.indexByte s.data.toList 37 = -1) :
    Calls Try.prog 12 #[.string s] w fun e w' => e = .returned (.string s) ∧ w' = w := by
  have hI := Try.strings_IndexByte s 37 w
  have e37 : (37 : Int).toNat.toUInt8 = (37 : UInt8) := rfl
  rw [e37, hp] at hI
  have HI := hid hI
  clear hI hp e37
  go_enter Try.func12, Try.ntmps12
  go_wp2_with fail
  refine HI.out.mono ?_
  rintro e w' ⟨rfl, hw⟩
  subst w'
  go_wp2_with fail
  go_ret
  exact ⟨rfl, rfl⟩

theorem normalize_any (s : ByteArray) (w : World) (hs : s.size ≤ 1048576) :
    Calls Try.prog 12 #[.string s] w fun e w' => e = .returned (.string ⟨(Pl.norm s.data.toList).toArray⟩) ∧ Below w.heap.size w w' := by
  by_cases hp : Lib.indexByte s.data.toList 37 = -1
  · refine (normalize_bare s w hp).mono ?_
    rintro e w' ⟨rfl, hw⟩
    subst w'
    have hn : Pl.norm s.data.toList = s.data.toList := Pl.norm_same _ (fun hm => by
      obtain ⟨i, hi, e⟩ := List.getElem_of_mem hm
      exact Lib.indexByte_none hp i (by rw [List.getElem?_eq_getElem hi, e]))
    rw [hn]
    exact ⟨rfl, Below.refl _ _⟩
  · have := Lib.indexByte_ge s.data.toList 37
    exact normalize_pct s w hs (hid (by omega))

theorem zznorm_any (s : ByteArray) (w : World) (hs : s.size ≤ 1048576) :
    Calls Try.prog 7 #[.string s] w fun e w' => e = .returned (.string ⟨(Pl.norm s.data.toList).toArray⟩) ∧ Below w.heap.size w w' := by
  generalize hR : Pl.norm s.data.toList = R
  have HR := hid hR
  clear hR
  go_enter Try.func7, Try.ntmps7
  go_wp2_with fail
  refine (normalize_any s _ hs).mono ?_
  rintro e w1 ⟨he, hb⟩
  rw [HR.out] at he
  subst he
  have HB := hid hb
  clear hb
  go_wp2_with fail
  go_ret
  exact ⟨rfl, HB.out⟩

end Go.Proofs.Qxb6600354a
