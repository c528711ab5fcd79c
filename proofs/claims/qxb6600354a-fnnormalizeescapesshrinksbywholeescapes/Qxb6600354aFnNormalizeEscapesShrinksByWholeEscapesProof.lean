/-
  A PROOF OF 'Rows.FnNormalizeEscapesShrinksByWholeEscapesSaid': its frame after the seat's shell, with 'Below' in the place of 'Grown' (the builder's bytes are frozen behind String, so the world has more than bare new blocks).
-/
import Derived.Test.Qxb6600354aRows
import Derived.Test.Qxb6600354aZz
import Derived.WalkKit
import Derived.ProofKit
import Derived.OpenShut
import Derived.ShutString
import Derived.Below
namespace Go.Proofs.Qxb6600354a.fnNormalizeEscapesShrinksByWholeEscapes
open Go.ChangeShapes Go.WideShapes Go.ChangeAt Go.RowKit
open Go.ChangeMaps (open_string shut_string)
set_option linter.unusedVariables false      -- a walk need not use every 'w<i>' (that an integer argument fits its kind)

theorem own : ownKnob Try.prog.godebug = none := by kernel_rfl

theorem zz (s : ByteArray) (w : World) (hs : s.size ≤ 1048576) :
    Calls Try.prog 7 #[.string s] w fun e w' => ∃ o : ByteArray, e = .returned (.string o) ∧ o.data.toList = Pl.norm s.data.toList ∧ Below w.heap.size w w' := by
  refine (zznorm_any s w hs).mono ?_
  rintro e w' ⟨rfl, hb⟩
  exact ⟨_, rfl, rfl, hb⟩

theorem count_v (s : ByteArray) (n : Nat) (w : World) (hs : s.size ≤ 1048576) (h : Hid (s.data.toList.count 37 = n)) :
    Calls Try.prog 10 #[.string s, .int .u8 37] w fun e w' => e = .returned (.int .i64 n) ∧ w' = w := by
  have := count_any s w hs
  rwa [h.out] at this

set_option maxHeartbeats 1000000 in
theorem walk (a0 : ByteArray) (w0 : a0.size ≤ maxLen) (w : World) :
    Calls Try.prog 4 #[.string a0] w fun e w' => e = .returned (.bool true) ∧ Below w.heap.size w w' := by
  by_cases hs : a0.size ≤ 1048576
  · clear w0
    go_enter Try.func4, Try.ntmps4
    go_wp2_with fail
    refine (bytesB_yes a0 _ hs).mono ?_
    rintro e w' ⟨rfl, hw⟩
    subst w'
    go_wp2_with fail
    refine (zz a0 _ hs).mono ?_
    rintro e w1 ⟨o, rfl, ho, hb⟩
    have HO := hid ho
    have HB := hid hb
    obtain ⟨⟨k, hk⟩, hc⟩ := Pl.shrinks a0.data.toList.length a0.data.toList (Nat.le_refl _)
    rw [← ho] at hk hc
    have HK : Hid (a0.size = o.size + 2 * k) := by simpa [Hid] using hk
    have HC := hid hc
    have hle : o.size ≤ a0.size := by have := HK.out; omega
    clear ho hb hk hc
    have hd : decide (a0.size < o.size) = false := by simp; omega
    have hm : (((a0.size : Int) - (o.size : Int)) % 2 != 0) = false := by
      rw [bne_eq_false_iff_eq]
      have := HK.out
      omega
    obtain ⟨n1, h1⟩ : ∃ n1, a0.data.toList.count 37 = n1 := ⟨_, rfl⟩
    obtain ⟨n2, h2⟩ : ∃ n2, o.data.toList.count 37 = n2 := ⟨_, rfl⟩
    have hc := HC.out
    rw [h1, h2] at hc
    have hn1 : n1 ≤ a0.size := by
      have := List.count_le_length (l := a0.data.toList) (a := (37 : UInt8))
      rw [h1] at this
      simpa using this
    have H1 := hid h1
    have H2 := hid h2
    clear h1 h2
    by_cases h0 : n1 = 0
    · have ho : o = a0 := by
        have hz : (37 : UInt8) ∉ a0.data.toList := by rw [← List.count_eq_zero, H1.out, h0]
        apply ByteArray.ext
        apply Array.toList_inj.1
        rw [HO.out, Pl.norm_same _ hz]
      subst ho
      subst h0
      obtain rfl : n2 = 0 := by omega
      go_wp2_with fail
      refine (count_v _ _ _ hs H1).mono ?_
      rintro e w' ⟨rfl, hw⟩
      subst w'
      go_wp2_with fail
      refine (count_v _ _ _ (by omega) H2).mono ?_
      rintro e w' ⟨rfl, hw⟩
      subst w'
      go_wp2_with fail
      go_ret
      exact ⟨ret_bool (by simp), HB.out⟩
    · have hb0 : ((n1 : Int) == 0) = false := by simp; omega
      go_wp2_with fail
      refine (count_v _ _ _ hs H1).mono ?_
      rintro e w' ⟨rfl, hw⟩
      subst w'
      go_wp2_with fail
      refine (count_v _ _ _ (by omega) H2).mono ?_
      rintro e w' ⟨rfl, hw⟩
      subst w'
      go_wp2_with fail
      go_ret
      exact ⟨rfl, HB.out⟩
  · go_enter Try.func4, Try.ntmps4
    go_wp2_with fail
    refine (bytesB_no a0 _ w0 (by omega)).mono ?_
    rintro e w' ⟨rfl, hw⟩
    subst w'
    go_wp2_with fail
    go_ret
    exact ⟨rfl, Below.refl _ _⟩

/-! ### THE ROW's STEP: WRITTEN OUT: LEAVE IT -/
set_option maxRecDepth 100000 in
theorem lifted (os : Os) (started : os.Started) (H : Type) (enc : TypeId × Value → H) :
    ReturnsInHanded {} Try.checked os 4 .any (Rows.fnNormalizeEscapesShrinksByWholeEscapesSpec.pre6 enc Try.prog Try.f4 Rows.fnNormalizeEscapesShrinksByWholeEscapesRow.domain false) (Rows.fnNormalizeEscapesShrinksByWholeEscapesSpec.post enc Try.prog Try.f4 false true false false) := by
  refine returnsInHanded_of_change (C := Try.checked) own started (by kernel_rfl) Try.func4
    (ChangeSpec.witness6 (enc := enc) (C := Try.checked) false ⟨#[], #[.string ByteArray.empty], []⟩ 8 (by kernel_rfl) (by kernel_rfl) (by kernel_rfl) (by kernel_rfl)) ?_
  intro W base args ds gs before hval0 hW hcnd _
  have hval : ∀ (j : Nat) t v, Try.f4.params[j]? = some t → args[j]? = some v → Value.okWide Try.prog W .any base t v := hval0
  have hW' := hW
  obtain ⟨p, q, hA0, hV, rfl, hfz, hnd⟩ := hW
  have hA : DataW.TrodAll enc Try.prog W 0 (fun _ => true) true Try.f4.params.toList args.toList ds p := hA0
  rw [Try.params4] at hA hval
  obtain ⟨v0, vs0, d0, ds0, p0, q0, hargs, rfl, rfl, h0, r0⟩ := trodAll_cons hA
  obtain ⟨rfl, rfl, rfl⟩ := trodAll_nil r0
  obtain rfl : args = #[v0] := by cases args; simp_all
  obtain ⟨rfl, rfl⟩ := trodVars_none hV
  obtain ⟨a0, rfl, rfl, rfl, w0⟩ := open_string Try.underlying9 (hval 0 9 v0 rfl rfl) h0
  clear hA0 hval0
  simp only [List.append_nil] at hW'
  refine (walk a0 w0 W).mono fun e W' ⟨he, bel⟩ => ?_
  subst he
  exact ⟨_, rfl, _, _, _, [], _, [], hW', trodAll_mk1 (shut_bool Try.underlying4 _), trodAll_cons_mk (shut_string Try.underlying9 w0) trodAll_mk0, rfl, bel.frame _, fun h => by cases h⟩

theorem over : Rows.fnNormalizeEscapesShrinksByWholeEscapesRow.holds Try.pinned (OpenSpec.ofChange Rows.fnNormalizeEscapesShrinksByWholeEscapesSpec) :=
  OpenClaim.holds_of_wide 4 Try.f4 rfl rfl rfl rfl rfl rfl rfl ⟨rfl, rfl, rfl, rfl, rfl⟩ rfl rfl rfl rfl rfl (by kernel_rfl) Try.func4 (by kernel_rfl)
    (of_decide_eq_true (by kernel_rfl)) (by unfold Func.isWrapper; first | (rw [if_pos (by decide +kernel)]; kernel_rfl) | (rw [if_neg (by decide +kernel)]; exact ⟨rfl, rfl⟩))
    (fun os started H enc _ => lifted os started H enc)

/-- ████ THE STATEMENT ████ -/
theorem proved : Rows.FnNormalizeEscapesShrinksByWholeEscapesSaid :=
  over
#print axioms proved
end Go.Proofs.Qxb6600354a.fnNormalizeEscapesShrinksByWholeEscapes
