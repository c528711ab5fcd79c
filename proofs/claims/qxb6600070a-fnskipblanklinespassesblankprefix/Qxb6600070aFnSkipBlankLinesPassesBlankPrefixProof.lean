/-
  A PROOF OF 'Rows.FnSkipBlankLinesPassesBlankPrefixSaid' ('example.com/nodewright/nodewright/zzlaws_internal_document_b1.FnSkipBlankLinesPassesBlankPrefix'), its frame written by program (proof-skeleton.mjs) off the guide's own print for that function.
  THE WALK IS OURS. ALL ELSE IS THE GUIDE's OWN WAY (howto/template/XProofs.lean; Derived/Test/ChunkProofs.lean for 'Below') at this function's number and types: leave it.
-/
import Derived.Test.Qxb6600070aRows
import Derived.Test.Qxb6600070aRoad
import Derived.WalkKit
import Derived.ProofKit
import Derived.OpenShut
import Derived.ShutString
import Derived.ChangeOld
import Derived.Below
namespace Go.Proofs.Qxb6600070a.fnSkipBlankLinesPassesBlankPrefix
open Go.ChangeShapes Go.WideShapes Go.ChangeAt Go.RowKit
open Go.ChangeMaps (open_string shut_string)
set_option linter.unusedVariables false

theorem own : ownKnob Try.prog.godebug = none := by kernel_rfl
theorem laidOut : laidOutB Try.prog = true := by kernel_rfl

/-- WHAT THE WALK IS TOLD OF A SLICE OF INTEGERS THAT CAME IN: it is nil; or it leads to a row of 'cap' cells, the numbers 'zs' (the first 'len' are its elements, the rest its spare room), each fitting its kind. -/
def IsRow (k : IntKind) (w : World) (a : Option Addr) (len cap : Nat) (zs : List Int) : Prop :=
  (a = none ∧ len = 0 ∧ cap = 0 ∧ zs = []) ∨
  ∃ x, a = some x ∧ len ≤ cap ∧ cap ≤ maxLen ∧ zs.length = cap ∧ (∀ i, i < zs.length → w.cell? (x.add i) = some (.int k (zs.getD i 0))) ∧ ∀ n ∈ zs, (Lit.int k n).wf = true

/-! ### STEP 1: THE WALK: the Go text returns true, AND WRITES NOTHING THAT WAS THERE: 'Below w.heap.size w w'' (Derived/Below.lean: '.refl', '.alloc', '.drew', '.setCell' at a new block, '.trans'). Open each 'IsRow' by 'rcases' AHEAD of 'go_enter'; part every test ahead of the walk. -/
set_option maxHeartbeats 1000000 in
theorem walk (a0 : Option Addr) (len0 cap0 : Nat) (z0 : List Int) (a1 : Option Addr) (len1 cap1 : Nat) (z1 : List Int) (w : World) (w0 : IsRow .u8 w a0 len0 cap0 z0) (w1 : IsRow .u8 w a1 len1 cap1 z1) :
    Calls Try.prog 4 #[.slice a0 len0 cap0, .slice a1 len1 cap1] w fun e w' => e = .returned (.bool true) ∧ Below w.heap.size w w' := by
  obtain ⟨hl0, hn0⟩ := len_of w0
  obtain ⟨hl1, hn1⟩ := len_of w1
  by_cases hsum : len0 + len1 ≤ 1048576
  · have hs0 := hid (src_of w0 (by omega))
    have hs1 := hid (src_of w1 (by omega))
    have HN0 := hid hn0
    have HN1 := hid hn1
    generalize z0.take len0 = x0 at hs0
    generalize z1.take len1 = x1 at hs1
    clear w0 w1 hn0 hn1
    unfold maxLen at hl0 hl1
    by_cases h0 : 524288 < len0
    · go_enter Try.func4, Try.ntmps4
      go_wp2_with fail
      refine (bytes2_yes _ _ _ _ _ _ _ hsum).mono ?_
      rintro e w' ⟨rfl, rfl⟩
      go_wp2_with fail
      go_ret
      exact ⟨rfl, Below.refl _ _⟩
    by_cases h1 : 524288 < len1
    · go_enter Try.func4, Try.ntmps4
      go_wp2_with fail
      refine (bytes2_yes _ _ _ _ _ _ _ hsum).mono ?_
      rintro e w' ⟨rfl, rfl⟩
      go_wp2_with fail
      go_ret
      exact ⟨rfl, Below.refl _ _⟩
    by_cases hb : Pl.allB 0 x0 = true
    · have HW : Hid (Pl.scan false 0 0 ((x0 ++ x1).drop 0) = len0 + Pl.scan false 0 0 (x1.drop 0)) := by
        show Pl.scan false 0 0 ((x0 ++ x1).drop 0) = len0 + Pl.scan false 0 0 (x1.drop 0)
        rw [List.drop_zero, List.drop_zero, Pl.passes x0 x1 hb, hs0.out.len]
      have hle : Pl.scan false 0 0 (x1.drop 0) ≤ len1 := by
        have := Pl.scan_le (x1.drop 0) false 0 0 (Nat.le_refl _)
        rw [List.drop_zero, hs1.out.len] at this
        simpa using this
      have HB := hid hb
      clear hb
      go_enter Try.func4, Try.ntmps4
      go_wp2_with fail
      refine (bytes2_yes _ _ _ _ _ _ _ hsum).mono ?_
      rintro e w' ⟨rfl, rfl⟩
      go_wp2_with fail
      refine (allblank_any _ _ _ _ x0 _ hs0.out).mono ?_
      rintro e w' ⟨he, rfl⟩
      rw [HB.out] at he
      subst he
      go_wp2_with fail
      refine (clone_any _ _ _ x0 _ hs0.out HN0.out).mono ?_
      rintro e w1 ⟨sa1, c1, rfl, hS1, hB1⟩
      have HS1 := hid hS1
      have HB1 := hid hB1
      have hs1' := hid (hs1.out.later hB1)
      clear hS1 hB1
      go_wp2_with fail
      refine (clone_any _ _ _ x1 _ hs1'.out HN1.out).mono ?_
      rintro e w2 ⟨sa2, c2, rfl, hS2, hB2⟩
      have HS2 := hid hS2
      have HB2 := hid (Below.step HB1.out hB2)
      have HS1' := hid (HS1.out.later hB2)
      clear hS2 hB2
      go_wp2_with fail
      refine (join_any _ _ _ _ _ _ x0 x1 _ HS1'.out HS2.out hsum).mono ?_
      rintro e w3 ⟨sa3, rfl, hS3, hB3⟩
      have HS3 := hid hS3
      have HB3 := hid (Below.step HB2.out hB3)
      have HS2' := hid (HS2.out.later hB3)
      clear hS3 hB3
      generalize hS2 : Pl.scan false 0 0 (x1.drop 0) = R2 at HW hle
      have HR2 := hid hS2
      clear hS2
      go_wp2_with fail
      refine (zzskip_v (len0 + len1) _ 0 (len0 + R2) _ (x0 ++ x1) _ HS3.out (Nat.zero_le _) HW).mono ?_
      rintro e w4 ⟨rfl, hB4⟩
      have HB4 := hid (Below.step HB3.out hB4)
      have HS2'' := hid (HS2'.out.later hB4)
      clear hB4
      go_wp2_with fail
      refine (zzskip_v len1 _ 0 R2 _ x1 _ HS2''.out (Nat.zero_le _) HR2).mono ?_
      rintro e w5 ⟨rfl, hB5⟩
      have HB5 := hid (Below.step HB4.out hB5)
      clear hB5
      go_wp2_with fail
      go_ret
      exact ⟨ret_bool (by simp), HB5.out⟩
    · have hb' : Pl.allB 0 x0 = false := by simpa using hb
      have HB := hid hb'
      clear hb hb'
      go_enter Try.func4, Try.ntmps4
      go_wp2_with fail
      refine (bytes2_yes _ _ _ _ _ _ _ hsum).mono ?_
      rintro e w' ⟨rfl, rfl⟩
      go_wp2_with fail
      refine (allblank_any _ _ _ _ x0 _ hs0.out).mono ?_
      rintro e w' ⟨he, rfl⟩
      rw [HB.out] at he
      subst he
      go_wp2_with fail
      go_ret
      exact ⟨rfl, Below.refl _ _⟩
  · clear w0 w1 hn0 hn1
    go_enter Try.func4, Try.ntmps4
    go_wp2_with fail
    refine (bytes2_no _ _ _ _ _ _ _ hl0 hl1 (by omega)).mono ?_
    rintro e w' ⟨rfl, rfl⟩
    go_wp2_with fail
    go_ret
    exact ⟨rfl, Below.refl _ _⟩

/-! ### THE ROW's STEP: WRITTEN OUT: LEAVE IT -/
set_option maxRecDepth 100000 in
theorem lifted (os : Os) (started : os.Started) (H : Type) (enc : TypeId × Value → H) :
    ReturnsInHanded {} Try.checked os 4 .any (Rows.fnSkipBlankLinesPassesBlankPrefixSpec.pre6 enc Try.prog Try.f4 Rows.fnSkipBlankLinesPassesBlankPrefixRow.domain false) (Rows.fnSkipBlankLinesPassesBlankPrefixSpec.post enc Try.prog Try.f4 false true false false) := by
  refine returnsInHanded_of_change (C := Try.checked) own started (by kernel_rfl) Try.func4
    (ChangeSpec.witness6 (enc := enc) (C := Try.checked) false ⟨#[], #[.slice none 0 0, .slice none 0 0], []⟩ 8 (by kernel_rfl) (by kernel_rfl) (by kernel_rfl) (by kernel_rfl)) ?_
  intro W base args ds gs before hval0 hW hcnd _
  have hval : ∀ (j : Nat) t v, Try.f4.params[j]? = some t → args[j]? = some v → Value.okWide Try.prog W .any base t v := hval0
  have hW' := hW
  obtain ⟨p, q, hA0, hV, rfl, hfz, hnd⟩ := hW
  have hA : DataW.TrodAll enc Try.prog W 0 (fun _ => true) true Try.f4.params.toList args.toList ds p := hA0
  rw [Try.params4] at hA hval
  obtain ⟨v0, vs0, d0, ds0, p0, q0, hargs, rfl, rfl, h0, r0⟩ := trodAll_cons hA
  obtain ⟨v1, vs1, d1, ds1, p1, q1, rfl, rfl, rfl, h1, r1⟩ := trodAll_cons r0
  obtain ⟨rfl, rfl, rfl⟩ := trodAll_nil r1
  obtain rfl : args = #[v0, v1] := by cases args; simp_all
  obtain ⟨rfl, rfl⟩ := trodVars_none hV
  obtain ⟨a0, len0, cap0, rfl⟩ := okWide_slice Try.underlying22 (hval 0 22 v0 rfl rfl)
  have k0 := h0
  have lt0 : ∀ x ∈ p0, x.block < W.heap.size := by obtain ⟨m, hm⟩ := k0; exact DataW.trod_lt m _ _ _ hm
  obtain ⟨z0, w0⟩ : ∃ zs, IsRow .u8 W a0 len0 cap0 zs := by
    obtain ⟨fuel, hf⟩ := h0
    rcases open_ints Try.underlying22 Try.underlying5 (by kernel_rfl) hf with ⟨hcs, _⟩ | ⟨x, l, c, zs, hcs, _, hl, hm, hz, _, hcell, hwz⟩
    · simp [Value.cells] at hcs
      obtain ⟨rfl, rfl, rfl⟩ := hcs
      exact ⟨[], .inl ⟨rfl, rfl, rfl, rfl⟩⟩
    · simp [Value.cells] at hcs
      obtain ⟨rfl, rfl, rfl⟩ := hcs
      exact ⟨zs, .inr ⟨_, rfl, hl, hm, by simpa using hz, hcell, hwz⟩⟩
  obtain ⟨a1, len1, cap1, rfl⟩ := okWide_slice Try.underlying22 (hval 1 22 v1 rfl rfl)
  have k1 := h1
  have lt1 : ∀ x ∈ p1, x.block < W.heap.size := by obtain ⟨m, hm⟩ := k1; exact DataW.trod_lt m _ _ _ hm
  obtain ⟨z1, w1⟩ : ∃ zs, IsRow .u8 W a1 len1 cap1 zs := by
    obtain ⟨fuel, hf⟩ := h1
    rcases open_ints Try.underlying22 Try.underlying5 (by kernel_rfl) hf with ⟨hcs, _⟩ | ⟨x, l, c, zs, hcs, _, hl, hm, hz, _, hcell, hwz⟩
    · simp [Value.cells] at hcs
      obtain ⟨rfl, rfl, rfl⟩ := hcs
      exact ⟨[], .inl ⟨rfl, rfl, rfl, rfl⟩⟩
    · simp [Value.cells] at hcs
      obtain ⟨rfl, rfl, rfl⟩ := hcs
      exact ⟨zs, .inr ⟨_, rfl, hl, hm, by simpa using hz, hcell, hwz⟩⟩
  clear hA0 hval0
  refine (walk a0 len0 cap0 z0 a1 len1 cap1 z1 W w0 w1).mono fun e W' ⟨he, bel⟩ => ?_
  subst he
  exact ⟨_, rfl, _, _, _, [], _, [], hW', trodAll_mk1 (shut_bool Try.underlying4 _), (trodAll_cons_mk (Below.trod laidOut (by kernel_rfl) (of_decide_eq_true (by kernel_rfl)) k0 bel lt0) (trodAll_cons_mk (Below.trod laidOut (by kernel_rfl) (of_decide_eq_true (by kernel_rfl)) k1 bel lt1) trodAll_mk0)), rfl, bel.frame _, fun h => by cases h⟩

theorem over : Rows.fnSkipBlankLinesPassesBlankPrefixRow.holds Try.pinned (OpenSpec.ofChange Rows.fnSkipBlankLinesPassesBlankPrefixSpec) :=
  OpenClaim.holds_of_wide 4 Try.f4 rfl rfl rfl rfl rfl rfl rfl ⟨rfl, rfl, rfl, rfl, rfl⟩ rfl rfl rfl rfl rfl (by kernel_rfl) Try.func4 (by kernel_rfl)
    (of_decide_eq_true (by kernel_rfl)) (by unfold Func.isWrapper; first | (rw [if_pos (by decide +kernel)]; kernel_rfl) | (rw [if_neg (by decide +kernel)]; exact ⟨rfl, rfl⟩))
    (fun os started H enc _ => lifted os started H enc)

/-- ████ THE STATEMENT ████ -/
theorem proved : Rows.FnSkipBlankLinesPassesBlankPrefixSaid := over
#print axioms proved
end Go.Proofs.Qxb6600070a.fnSkipBlankLinesPassesBlankPrefix
