/-
  A PROOF OF 'Rows.FnSkipBlankLinesLandsOnContentLineSaid' ('example.com/nodewright/nodewright/zzlaws_internal_document_b1.FnSkipBlankLinesLandsOnContentLine'), its frame written by program (proof-skeleton.mjs) off the guide's own print for that function.
  THE WALK IS OURS. ALL ELSE IS THE GUIDE's OWN WAY (howto/template/XProofs.lean; Derived/Test/ChunkProofs.lean for 'Below') at this function's number and types: leave it.
-/
import Derived.Test.Qxb6600070aRows
import Derived.Test.Qxb6600070aRoad
import Derived.WalkKit
import Derived.ProofKit
import Derived.OpenShut
import Derived.ShutString
import Derived.ChangeOld
import Derived.Below
namespace Go.Proofs.Qxb6600070a.fnSkipBlankLinesLandsOnContentLine
open Go.ChangeShapes Go.WideShapes Go.ChangeAt Go.RowKit
open Go.ChangeMaps (open_string shut_string)
set_option linter.unusedVariables false

theorem own : ownKnob Try.prog.godebug = none := by kernel_rfl
theorem laidOut : laidOutB Try.prog = true := by kernel_rfl

/-- WHAT THE WALK IS TOLD OF A SLICE OF INTEGERS THAT CAME IN: it is nil; or it leads to a row of 'cap' cells, the numbers 'zs' (the first 'len' are its elements, the rest its spare room), each fitting its kind. -/
def IsRow (k : IntKind) (w : World) (a : Option Addr) (len cap : Nat) (zs : List Int) : Prop :=
  (a = none ∧ len = 0 ∧ cap = 0 ∧ zs = []) ∨
  ∃ x, a = some x ∧ len ≤ cap ∧ cap ≤ maxLen ∧ zs.length = cap ∧ (∀ i, i < zs.length → w.cell? (x.add i) = some (.int k (zs.getD i 0))) ∧ ∀ n ∈ zs, (Lit.int k n).wf = true

/-! ### STEP 1: THE WALK: the Go text returns true, AND WRITES NOTHING THAT WAS THERE: 'Below w.heap.size w w'' (Derived/Below.lean: '.refl', '.alloc', '.drew', '.setCell' at a new block, '.trans'). Open each 'IsRow' by 'rcases' AHEAD of 'go_enter'; part every test ahead of the walk. -/
set_option maxHeartbeats 1000000 in
theorem walk (a0 : Option Addr) (len0 cap0 : Nat) (z0 : List Int) (a1 : Option Addr) (len1 cap1 : Nat) (z1 : List Int) (a2 : Option Addr) (len2 cap2 : Nat) (z2 : List Int) (w : World) (w0 : IsRow .u8 w a0 len0 cap0 z0) (w1 : IsRow .u8 w a1 len1 cap1 z1) (w2 : IsRow .u8 w a2 len2 cap2 z2) :
    Calls Try.prog 5 #[.slice a0 len0 cap0, .slice a1 len1 cap1, .slice a2 len2 cap2] w fun e w' => e = .returned (.bool true) ∧ Below w.heap.size w w' := by
  obtain ⟨hl0, hn0⟩ := len_of w0
  obtain ⟨hl1, hn1⟩ := len_of w1
  obtain ⟨hl2, hn2⟩ := len_of w2
  by_cases hsum : len0 + len1 + len2 ≤ 1048576
  · have hs0 := hid (src_of w0 (by omega))
    have hs1 := hid (src_of w1 (by omega))
    have hs2 := hid (src_of w2 (by omega))
    have HN0 := hid hn0
    have HN1 := hid hn1
    have HN2 := hid hn2
    generalize z0.take len0 = x0 at hs0
    generalize z1.take len1 = x1 at hs1
    generalize z2.take len2 = x2 at hs2
    clear w0 w1 w2 hn0 hn1 hn2
    unfold maxLen at hl0 hl1 hl2
    by_cases h0 : 262144 < len0
    · go_enter Try.func5, Try.ntmps5
      go_wp2_with fail
      refine (bytes3_yes _ _ _ _ _ _ _ _ _ _ hsum).mono ?_
      rintro e w' ⟨rfl, rfl⟩
      go_wp2_with fail
      go_ret
      exact ⟨rfl, Below.refl _ _⟩
    by_cases h1 : 262144 < len1
    · go_enter Try.func5, Try.ntmps5
      go_wp2_with fail
      refine (bytes3_yes _ _ _ _ _ _ _ _ _ _ hsum).mono ?_
      rintro e w' ⟨rfl, rfl⟩
      go_wp2_with fail
      go_ret
      exact ⟨rfl, Below.refl _ _⟩
    by_cases h2 : 262144 < len2
    · go_enter Try.func5, Try.ntmps5
      go_wp2_with fail
      refine (bytes3_yes _ _ _ _ _ _ _ _ _ _ hsum).mono ?_
      rintro e w' ⟨rfl, rfl⟩
      go_wp2_with fail
      go_ret
      exact ⟨rfl, Below.refl _ _⟩
    by_cases hb : Pl.allB 0 x1 = true
    · have HB := hid hb
      clear hb
      by_cases hc : Pl.content x2 = true
      · have HC := hid hc
        clear hc
        have HW : Hid (Pl.scan false len0 len0 ((x0 ++ x1 ++ x2).drop len0) = len0 + len1) := by
          show Pl.scan false len0 len0 ((x0 ++ x1 ++ x2).drop len0) = len0 + len1
          have := Pl.lands x0 x1 x2 HB.out HC.out
          rwa [hs0.out.len, hs1.out.len] at this
        go_enter Try.func5, Try.ntmps5
        go_wp2_with fail
        refine (bytes3_yes _ _ _ _ _ _ _ _ _ _ hsum).mono ?_
        rintro e w' ⟨rfl, rfl⟩
        go_wp2_with fail
        refine (allblank_any _ _ _ _ x1 _ hs1.out).mono ?_
        rintro e w' ⟨he, rfl⟩
        rw [HB.out] at he
        subst he
        go_wp2_with fail
        refine (content_any _ _ _ _ x2 _ hs2.out).mono ?_
        rintro e w' ⟨he, rfl⟩
        rw [HC.out] at he
        subst he
        go_wp2_with fail
        refine (clone_any _ _ _ x0 _ hs0.out HN0.out).mono ?_
        rintro e w1 ⟨sa1, c1, rfl, hS1, hB1⟩
        have HS1 := hid hS1
        have HB1 := hid hB1
        have hs1' := hid (hs1.out.later hB1)
        have hs2' := hid (hs2.out.later hB1)
        clear hS1 hB1
        go_wp2_with fail
        refine (clone_any _ _ _ x1 _ hs1'.out HN1.out).mono ?_
        rintro e w2 ⟨sa2, c2, rfl, hS2, hB2⟩
        have HS2 := hid hS2
        have HB2 := hid (Below.step HB1.out hB2)
        have HS1' := hid (HS1.out.later hB2)
        have hs2'' := hid (hs2'.out.later hB2)
        clear hS2 hB2
        go_wp2_with fail
        refine (clone_any _ _ _ x2 _ hs2''.out HN2.out).mono ?_
        rintro e w3 ⟨sa3, c3, rfl, hS3, hB3⟩
        have HS3 := hid hS3
        have HB3 := hid (Below.step HB2.out hB3)
        have HS1'' := hid (HS1'.out.later hB3)
        have HS2' := hid (HS2.out.later hB3)
        clear hS3 hB3
        go_wp2_with fail
        refine (join_any _ _ _ _ _ _ x0 x1 _ HS1''.out HS2'.out (by omega)).mono ?_
        rintro e w4 ⟨sa4, rfl, hS4, hB4⟩
        have HS4 := hid hS4
        have HB4 := hid (Below.step HB3.out hB4)
        have HS3' := hid (HS3.out.later hB4)
        clear hS4 hB4
        go_wp2_with fail
        refine (join_any _ _ _ _ _ _ (x0 ++ x1) x2 _ HS4.out HS3'.out hsum).mono ?_
        rintro e w5 ⟨sa5, rfl, hS5, hB5⟩
        have HS5 := hid hS5
        have HB5 := hid (Below.step HB4.out hB5)
        clear hS5 hB5
        go_wp2_with fail
        refine (zzskip_v (len0 + len1 + len2) _ len0 (len0 + len1) _ (x0 ++ x1 ++ x2) _ HS5.out (by omega) HW).mono ?_
        rintro e w6 ⟨rfl, hB6⟩
        have HB6 := hid (Below.step HB5.out hB6)
        clear hB6
        go_wp2_with fail
        go_ret
        exact ⟨ret_bool (by simp), HB6.out⟩
      · have hc' : Pl.content x2 = false := by simpa using hc
        have HC := hid hc'
        clear hc hc'
        go_enter Try.func5, Try.ntmps5
        go_wp2_with fail
        refine (bytes3_yes _ _ _ _ _ _ _ _ _ _ hsum).mono ?_
        rintro e w' ⟨rfl, rfl⟩
        go_wp2_with fail
        refine (allblank_any _ _ _ _ x1 _ hs1.out).mono ?_
        rintro e w' ⟨he, rfl⟩
        rw [HB.out] at he
        subst he
        go_wp2_with fail
        refine (content_any _ _ _ _ x2 _ hs2.out).mono ?_
        rintro e w' ⟨he, rfl⟩
        rw [HC.out] at he
        subst he
        go_wp2_with fail
        go_ret
        exact ⟨rfl, Below.refl _ _⟩
    · have hb' : Pl.allB 0 x1 = false := by simpa using hb
      have HB := hid hb'
      clear hb hb'
      go_enter Try.func5, Try.ntmps5
      go_wp2_with fail
      refine (bytes3_yes _ _ _ _ _ _ _ _ _ _ hsum).mono ?_
      rintro e w' ⟨rfl, rfl⟩
      go_wp2_with fail
      refine (allblank_any _ _ _ _ x1 _ hs1.out).mono ?_
      rintro e w' ⟨he, rfl⟩
      rw [HB.out] at he
      subst he
      go_wp2_with fail
      go_ret
      exact ⟨rfl, Below.refl _ _⟩
  · clear w0 w1 w2 hn0 hn1 hn2
    go_enter Try.func5, Try.ntmps5
    go_wp2_with fail
    refine (bytes3_no _ _ _ _ _ _ _ _ _ _ hl0 hl1 hl2 (by omega)).mono ?_
    rintro e w' ⟨rfl, rfl⟩
    go_wp2_with fail
    go_ret
    exact ⟨rfl, Below.refl _ _⟩

/-! ### THE ROW's STEP: WRITTEN OUT: LEAVE IT -/
set_option maxRecDepth 100000 in
theorem lifted (os : Os) (started : os.Started) (H : Type) (enc : TypeId × Value → H) :
    ReturnsInHanded {} Try.checked os 5 .any (Rows.fnSkipBlankLinesLandsOnContentLineSpec.pre6 enc Try.prog Try.f5 Rows.fnSkipBlankLinesLandsOnContentLineRow.domain false) (Rows.fnSkipBlankLinesLandsOnContentLineSpec.post enc Try.prog Try.f5 false true false false) := by
  refine returnsInHanded_of_change (C := Try.checked) own started (by kernel_rfl) Try.func5
    (ChangeSpec.witness6 (enc := enc) (C := Try.checked) false ⟨#[], #[.slice none 0 0, .slice none 0 0, .slice none 0 0], []⟩ 8 (by kernel_rfl) (by kernel_rfl) (by kernel_rfl) (by kernel_rfl)) ?_
  intro W base args ds gs before hval0 hW hcnd _
  have hval : ∀ (j : Nat) t v, Try.f5.params[j]? = some t → args[j]? = some v → Value.okWide Try.prog W .any base t v := hval0
  have hW' := hW
  obtain ⟨p, q, hA0, hV, rfl, hfz, hnd⟩ := hW
  have hA : DataW.TrodAll enc Try.prog W 0 (fun _ => true) true Try.f5.params.toList args.toList ds p := hA0
  rw [Try.params5] at hA hval
  obtain ⟨v0, vs0, d0, ds0, p0, q0, hargs, rfl, rfl, h0, r0⟩ := trodAll_cons hA
  obtain ⟨v1, vs1, d1, ds1, p1, q1, rfl, rfl, rfl, h1, r1⟩ := trodAll_cons r0
  obtain ⟨v2, vs2, d2, ds2, p2, q2, rfl, rfl, rfl, h2, r2⟩ := trodAll_cons r1
  obtain ⟨rfl, rfl, rfl⟩ := trodAll_nil r2
  obtain rfl : args = #[v0, v1, v2] := by cases args; simp_all
  obtain ⟨rfl, rfl⟩ := trodVars_none hV
  obtain ⟨a0, len0, cap0, rfl⟩ := okWide_slice Try.underlying22 (hval 0 22 v0 rfl rfl)
  have k0 := h0
  have lt0 : ∀ x ∈ p0, x.block < W.heap.size := by obtain ⟨m, hm⟩ := k0; exact DataW.trod_lt m _ _ _ hm
  obtain ⟨z0, w0⟩ : ∃ zs, IsRow .u8 W a0 len0 cap0 zs := by
    obtain ⟨fuel, hf⟩ := h0
    rcases open_ints Try.underlying22 Try.underlying5 (by kernel_rfl) hf with ⟨hcs, _⟩ | ⟨x, l, c, zs, hcs, _, hl, hm, hz, _, hcell, hwz⟩
    · simp [Value.cells] at hcs
      obtain ⟨rfl, rfl, rfl⟩ := hcs
      exact ⟨[], .inl ⟨rfl, rfl, rfl, rfl⟩⟩
    · simp [Value.cells] at hcs
      obtain ⟨rfl, rfl, rfl⟩ := hcs
      exact ⟨zs, .inr ⟨_, rfl, hl, hm, by simpa using hz, hcell, hwz⟩⟩
  obtain ⟨a1, len1, cap1, rfl⟩ := okWide_slice Try.underlying22 (hval 1 22 v1 rfl rfl)
  have k1 := h1
  have lt1 : ∀ x ∈ p1, x.block < W.heap.size := by obtain ⟨m, hm⟩ := k1; exact DataW.trod_lt m _ _ _ hm
  obtain ⟨z1, w1⟩ : ∃ zs, IsRow .u8 W a1 len1 cap1 zs := by
    obtain ⟨fuel, hf⟩ := h1
    rcases open_ints Try.underlying22 Try.underlying5 (by kernel_rfl) hf with ⟨hcs, _⟩ | ⟨x, l, c, zs, hcs, _, hl, hm, hz, _, hcell, hwz⟩
    · simp [Value.cells] at hcs
      obtain ⟨rfl, rfl, rfl⟩ := hcs
      exact ⟨[], .inl ⟨rfl, rfl, rfl, rfl⟩⟩
    · simp [Value.cells] at hcs
      obtain ⟨rfl, rfl, rfl⟩ := hcs
      exact ⟨zs, .inr ⟨_, rfl, hl, hm, by simpa using hz, hcell, hwz⟩⟩
  obtain ⟨a2, len2, cap2, rfl⟩ := okWide_slice Try.underlying22 (hval 2 22 v2 rfl rfl)
  have k2 := h2
  have lt2 : ∀ x ∈ p2, x.block < W.heap.size := by obtain ⟨m, hm⟩ := k2; exact DataW.trod_lt m _ _ _ hm
  obtain ⟨z2, w2⟩ : ∃ zs, IsRow .u8 W a2 len2 cap2 zs := by
    obtain ⟨fuel, hf⟩ := h2
    rcases open_ints Try.underlying22 Try.underlying5 (by kernel_rfl) hf with ⟨hcs, _⟩ | ⟨x, l, c, zs, hcs, _, hl, hm, hz, _, hcell, hwz⟩
    · simp [Value.cells] at hcs
      obtain ⟨rfl, rfl, rfl⟩ := hcs
      exact ⟨[], .inl ⟨rfl, rfl, rfl, rfl⟩⟩
    · simp [Value.cells] at hcs
      obtain ⟨rfl, rfl, rfl⟩ := hcs
      exact ⟨zs, .inr ⟨_, rfl, hl, hm, by simpa using hz, hcell, hwz⟩⟩
  clear hA0 hval0
  refine (walk a0 len0 cap0 z0 a1 len1 cap1 z1 a2 len2 cap2 z2 W w0 w1 w2).mono fun e W' ⟨he, bel⟩ => ?_
  subst he
  exact ⟨_, rfl, _, _, _, [], _, [], hW', trodAll_mk1 (shut_bool Try.underlying4 _), (trodAll_cons_mk (Below.trod laidOut (by kernel_rfl) (of_decide_eq_true (by kernel_rfl)) k0 bel lt0) (trodAll_cons_mk (Below.trod laidOut (by kernel_rfl) (of_decide_eq_true (by kernel_rfl)) k1 bel lt1) (trodAll_cons_mk (Below.trod laidOut (by kernel_rfl) (of_decide_eq_true (by kernel_rfl)) k2 bel lt2) trodAll_mk0))), rfl, bel.frame _, fun h => by cases h⟩

theorem over : Rows.fnSkipBlankLinesLandsOnContentLineRow.holds Try.pinned (OpenSpec.ofChange Rows.fnSkipBlankLinesLandsOnContentLineSpec) :=
  OpenClaim.holds_of_wide 5 Try.f5 rfl rfl rfl rfl rfl rfl rfl ⟨rfl, rfl, rfl, rfl, rfl⟩ rfl rfl rfl rfl rfl (by kernel_rfl) Try.func5 (by kernel_rfl)
    (of_decide_eq_true (by kernel_rfl)) (by unfold Func.isWrapper; first | (rw [if_pos (by decide +kernel)]; kernel_rfl) | (rw [if_neg (by decide +kernel)]; exact ⟨rfl, rfl⟩))
    (fun os started H enc _ => lifted os started H enc)

/-- ████ THE STATEMENT ████ -/
theorem proved : Rows.FnSkipBlankLinesLandsOnContentLineSaid := over
#print axioms proved
end Go.Proofs.Qxb6600070a.fnSkipBlankLinesLandsOnContentLine
