/-
  A PROOF OF 'Rows.FnNormalizeEscapesKeepsMeaningOfWellFormedPathsSaid': its frame after the seat's shell, with 'Below' in the place of 'Grown' (the builder's bytes are frozen behind String, so the world has more than bare new blocks).
-/
import Derived.Test.Qxb6600354aRows
import Derived.Test.Qxb6600354aZz
import Derived.Test.Qxb6600354aDec
import Derived.WalkKit
import Derived.ProofKit
import Derived.OpenShut
import Derived.ShutString
import Derived.Below
namespace Go.Proofs.Qxb6600354a.fnNormalizeEscapesKeepsMeaningOfWellFormedPaths
open Go.ChangeShapes Go.WideShapes Go.ChangeAt Go.RowKit
open Go.ChangeMaps (open_string shut_string)
set_option linter.unusedVariables false      -- a walk need not use every 'w<i>' (that an integer argument fits its kind)

theorem own : ownKnob Try.prog.godebug = none := by kernel_rfl

theorem zz (s o : ByteArray) (w : World) (hs : s.size ≤ 1048576) (ho : Hid (o = ⟨(Pl.norm s.data.toList).toArray⟩)) :
    Calls Try.prog 7 #[.string s] w fun e w' => e = .returned (.string o) ∧ Below w.heap.size w w' := by
  have := zznorm_any s w hs
  rwa [← ho.out] at this

theorem decode_v (s o : ByteArray) (w : World) (hs : s.size ≤ 1048576) (ho : Hid (o = ⟨(Pl.dec s.data.toList).toArray⟩)) :
    Calls Try.prog 8 #[.string s] w fun e w' => e = .returned (.string o) ∧ Below w.heap.size w w' := by
  have := decode_any s w hs
  rwa [← ho.out] at this

theorem step {w w1 w2 : World} (h : Below w.heap.size w w1) (h2 : Below w1.heap.size w1 w2) : Below w.heap.size w w2 := h.trans (h2.mono h.size)

set_option maxHeartbeats 1000000 in
theorem walk (a0 : ByteArray) (w0 : a0.size ≤ maxLen) (w : World) :
    Calls Try.prog 3 #[.string a0] w fun e w' => e = .returned (.bool true) ∧ Below w.heap.size w w' := by
  by_cases hs : a0.size ≤ 1048576
  · clear w0
    by_cases hw : Pl.wf a0.data.toList = true
    · obtain ⟨k1, k2⟩ := Pl.keeps a0.data.toList.length a0.data.toList (Nat.le_refl _) hw
      obtain ⟨o, ho⟩ : ∃ o : ByteArray, o = ⟨(Pl.norm a0.data.toList).toArray⟩ := ⟨_, rfl⟩
      obtain ⟨d, hd⟩ : ∃ d : ByteArray, d = ⟨(Pl.dec a0.data.toList).toArray⟩ := ⟨_, rfl⟩
      have HO := hid ho
      have HD := hid hd
      have hod : o.data.toList = Pl.norm a0.data.toList := by rw [ho]
      have HD2 : Hid (d = ⟨(Pl.dec o.data.toList).toArray⟩) := by
        show d = _
        rw [hod, k1]; exact hd
      have HO2 : Hid (o = ⟨(Pl.norm o.data.toList).toArray⟩) := by
        show o = _
        rw [hod, k2]; exact ho
      have hos : o.size ≤ 1048576 := by
        have e1 : o.size = o.data.toList.length := by simp
        have := Pl.norm_length a0.data.toList
        rw [e1, hod]
        simp at this ⊢
        omega
      have HW := hid hw
      clear hw k1 k2 ho hd hod
      go_enter Try.func3, Try.ntmps3
      go_wp2_with fail
      refine (bytesA_yes a0 _ hs).mono ?_
      rintro e w' ⟨rfl, hw⟩
      subst w'
      go_wp2_with fail
      refine (well_any a0 _ hs).mono ?_
      rintro e w' ⟨he, hw⟩
      subst w'
      rw [HW.out] at he
      subst he
      go_wp2_with fail
      refine (zz a0 o _ hs HO).mono ?_
      rintro e w1 ⟨rfl, hb1⟩
      have HB1 := hid hb1
      clear hb1
      go_wp2_with fail
      refine (decode_v o d _ hos HD2).mono ?_
      rintro e w2 ⟨rfl, hb2⟩
      have HB2 := hid (step HB1.out hb2)
      clear hb2
      go_wp2_with fail
      refine (decode_v a0 d _ hs HD).mono ?_
      rintro e w3 ⟨rfl, hb3⟩
      have HB3 := hid (step HB2.out hb3)
      clear hb3
      go_wp2_with fail
      refine (zz o o _ hos HO2).mono ?_
      rintro e w4 ⟨rfl, hb4⟩
      have HB4 := hid (step HB3.out hb4)
      clear hb4
      go_wp2_with fail
      go_ret
      exact ⟨ret_bool (by simp), HB4.out⟩
    · have hw' : Pl.wf a0.data.toList = false := by simpa using hw
      have HW := hid hw'
      clear hw hw'
      go_enter Try.func3, Try.ntmps3
      go_wp2_with fail
      refine (bytesA_yes a0 _ hs).mono ?_
      rintro e w' ⟨rfl, hw⟩
      subst w'
      go_wp2_with fail
      refine (well_any a0 _ hs).mono ?_
      rintro e w' ⟨he, hw⟩
      subst w'
      rw [HW.out] at he
      subst he
      go_wp2_with fail
      go_ret
      exact ⟨rfl, Below.refl _ _⟩
  · go_enter Try.func3, Try.ntmps3
    go_wp2_with fail
    refine (bytesA_no a0 _ w0 (by omega)).mono ?_
    rintro e w' ⟨rfl, hw⟩
    subst w'
    go_wp2_with fail
    go_ret
    exact ⟨rfl, Below.refl _ _⟩

/-! ### THE ROW's STEP: WRITTEN OUT: LEAVE IT -/
set_option maxRecDepth 100000 in
theorem lifted (os : Os) (started : os.Started) (H : Type) (enc : TypeId × Value → H) :
    ReturnsInHanded {} Try.checked os 3 .any (Rows.fnNormalizeEscapesKeepsMeaningOfWellFormedPathsSpec.pre6 enc Try.prog Try.f3 Rows.fnNormalizeEscapesKeepsMeaningOfWellFormedPathsRow.domain false) (Rows.fnNormalizeEscapesKeepsMeaningOfWellFormedPathsSpec.post enc Try.prog Try.f3 false true false false) := by
  refine returnsInHanded_of_change (C := Try.checked) own started (by kernel_rfl) Try.func3
    (ChangeSpec.witness6 (enc := enc) (C := Try.checked) false ⟨#[], #[.string ByteArray.empty], []⟩ 8 (by kernel_rfl) (by kernel_rfl) (by kernel_rfl) (by kernel_rfl)) ?_
  intro W base args ds gs before hval0 hW hcnd _
  have hval : ∀ (j : Nat) t v, Try.f3.params[j]? = some t → args[j]? = some v → Value.okWide Try.prog W .any base t v := hval0
  have hW' := hW
  obtain ⟨p, q, hA0, hV, rfl, hfz, hnd⟩ := hW
  have hA : DataW.TrodAll enc Try.prog W 0 (fun _ => true) true Try.f3.params.toList args.toList ds p := hA0
  rw [Try.params3] at hA hval
  obtain ⟨v0, vs0, d0, ds0, p0, q0, hargs, rfl, rfl, h0, r0⟩ := trodAll_cons hA
  obtain ⟨rfl, rfl, rfl⟩ := trodAll_nil r0
  obtain rfl : args = #[v0] := by cases args; simp_all
  obtain ⟨rfl, rfl⟩ := trodVars_none hV
  obtain ⟨a0, rfl, rfl, rfl, w0⟩ := open_string Try.underlying9 (hval 0 9 v0 rfl rfl) h0
  clear hA0 hval0
  simp only [List.append_nil] at hW'
  refine (walk a0 w0 W).mono fun e W' ⟨he, bel⟩ => ?_
  subst he
  exact ⟨_, rfl, _, _, _, [], _, [], hW', trodAll_mk1 (shut_bool Try.underlying4 _), trodAll_cons_mk (shut_string Try.underlying9 w0) trodAll_mk0, rfl, bel.frame _, fun h => by cases h⟩

theorem over : Rows.fnNormalizeEscapesKeepsMeaningOfWellFormedPathsRow.holds Try.pinned (OpenSpec.ofChange Rows.fnNormalizeEscapesKeepsMeaningOfWellFormedPathsSpec) :=
  OpenClaim.holds_of_wide 3 Try.f3 rfl rfl rfl rfl rfl rfl rfl ⟨rfl, rfl, rfl, rfl, rfl⟩ rfl rfl rfl rfl rfl (by kernel_rfl) Try.func3 (by kernel_rfl)
    (of_decide_eq_true (by kernel_rfl)) (by unfold Func.isWrapper; first | (rw [if_pos (by decide +kernel)]; kernel_rfl) | (rw [if_neg (by decide +kernel)]; exact ⟨rfl, rfl⟩))
    (fun os started H enc _ => lifted os started H enc)

/-- ████ THE STATEMENT ████ -/
theorem proved : Rows.FnNormalizeEscapesKeepsMeaningOfWellFormedPathsSaid :=
  over
#print axioms proved
end Go.Proofs.Qxb6600354a.fnNormalizeEscapesKeepsMeaningOfWellFormedPaths
