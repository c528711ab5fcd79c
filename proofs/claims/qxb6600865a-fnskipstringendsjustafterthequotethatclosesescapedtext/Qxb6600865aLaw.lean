/-
  THE WALK of FnSkipStringEndsJustAfterTheQuoteThatClosesEscapedText within its bounds (seat b6600865a).
-/
import Derived.Test.Qxb6600865aOut
import Derived.Test.Qxb6600865aSkip
namespace Go.Proofs.Qxb6600865a
open Go.RowKit
set_option linter.unusedVariables false

theorem take_next (x : List Int) (k : Nat) (h : k < x.length) : x.take (k + 1) = x.take k ++ [x[k]?.getD 0] := by
  rw [List.take_succ_eq_append_getElem h]
  simp [List.getElem?_eq_getElem h]

/-- One byte of the content more. -/
theorem out_plain {w wr : World} {g L cap : Nat} {x : List Int} {k : Nat} {u : Int} (hk : k < x.length) (hu : x[k]?.getD 0 = u) (h34 : u ≠ 34) (h92 : u ≠ 92) (h : Out w wr g L cap ((34 :: Pl.escq (x.take k)) ++ [u])) : Out w wr g L cap (34 :: Pl.escq (x.take (k + 1))) := by
  have e : (34 :: Pl.escq (x.take k)) ++ [u] = 34 :: Pl.escq (x.take (k + 1)) := by
    rw [take_next x k hk, hu, Pl.escq_snoc]
    simp [h34, h92]
  rwa [e] at h

theorem out_special {w wr : World} {g L cap : Nat} {x : List Int} {k : Nat} {u : Int} (hk : k < x.length) (hu : x[k]?.getD 0 = u) (hs : u = 34 ∨ u = 92) (h : Out w wr g L cap (((34 :: Pl.escq (x.take k)) ++ [92]) ++ [u])) : Out w wr g L cap (34 :: Pl.escq (x.take (k + 1))) := by
  have e : ((34 :: Pl.escq (x.take k)) ++ [92]) ++ [u] = 34 :: Pl.escq (x.take (k + 1)) := by
    rw [take_next x k hk, hu, Pl.escq_snoc]
    have : (u == 34 || u == 92) = true := by rcases hs with rfl | rfl <;> rfl
    rw [if_pos this]
    simp
  rwa [e] at h

set_option maxHeartbeats 2000000 in
theorem law_main (sa0 sa1 : Option Addr) (n0 c0 n1 c1 : Nat) (x0 x1 : List Int) (w : World) (h0 : Src w.heap.size w sa0 n0 c0 x0) (h1 : Src w.heap.size w sa1 n1 c1 x1) (hn0 : sa0 = none → n0 = 0 ∧ c0 = 0) (hn1 : sa1 = none → n1 = 0 ∧ c1 = 0) (hsum : n0 + n1 ≤ 1048576) :
    Calls Try.prog 6 #[.slice sa0 n0 c0, .slice sa1 n1 c1] w fun e w' => e = .returned (.bool true) ∧ Below w.heap.size w w' := by
  obtain ⟨i0, hi, hz0, hz1, hz2⟩ := info_parts Try.info5
  have hs0 := hid h0
  have hs1 := hid h1
  have HN0 := hid hn0
  have HN1 := hid hn1
  clear h0 h1 hn0 hn1
  have q0 : decide ((1048576 : Int) < (n0 : Int)) = false := by simp; omega
  have q1 : decide ((1048576 : Int) < (n1 : Int)) = false := by simp; omega
  have q2 : decide ((1048576 : Int) < (n0 : Int) + (n1 : Int)) = false := by simp; omega
  go_enter Try.func6, Try.ntmps6
  go_wp2_with fail
  refine (bytes2_yes _ _ _ _ _ _ _ hsum).mono ?_
  rintro e w' ⟨rfl, hw⟩
  subst w'
  go_wp2_with fail
  refine (clone_any _ _ _ x0 _ hs0.out HN0.out).mono ?_
  rintro e w1 ⟨sb0, d0, rfl, hS1, hB1⟩
  have HS1 := hid hS1
  have HB1 := hid hB1
  have hs1' := hid (hs1.out.later hB1)
  clear hS1 hB1 hs0 hs1
  go_wp2_with fail
  refine (clone_any _ _ _ x1 _ hs1'.out HN1.out).mono ?_
  rintro e w2 ⟨sb1, d1, rfl, hS2, hB2⟩
  have HS2 := hid hS2
  have HB2 := hid (Below.step HB1.out hB2)
  have HS1' := hid (HS1.out.later hB2)
  clear hS2 hB2 HS1 HB1 hs1'
  go_wp2_with (first | (at_make; refine wpList_make_own _ rfl _ _ 23 rfl w2.heap.size 5 i0 (.int .u8 0) 1 Try.underlying23 hi hz0 hz1 .i64 .i64 _ (2 * n0 + 2 + n1) rfl rfl (by omega) (by rw [hz2]; omega) (by unfold maxLen; omega) (Nat.le_refl _) ?_; intro w3 hown hgrow; have HO3 : Hid (Out w2 w3 w2.heap.size 0 (2 * n0 + 2 + n1) []) := ⟨rfl, hown, (Below.refl _ _).grown hgrow (Nat.le_refl _) (fun k h => by cases h)⟩; clear hown hgrow) | (at_builtin; refine append_byte w2 w3 _ _ _ [] 34 HO3.out rfl (.tmp 44) (.tmp 45) rfl rfl rfl (by omega) ?_; intro g4 cap4 w4 HO4))
  clear HO3
  go_loopw [5, 6] (fun v i wr => ∃ k g L cap : Nat, k ≤ n0 ∧ L ≤ 2 * k + 1 ∧ v = .slice (some ⟨g, 0, none⟩) L cap ∧ i = .int .i64 k ∧ Hid (Out w2 wr g L cap (34 :: Pl.escq (x0.take k)))) (fun _ i _ => n0 - (intOf i).toNat)
  case atStart => exact ⟨0, g4, 1, cap4, Nat.zero_le _, by omega, rfl, rfl, HO4⟩
  case round =>
    clear HO4
    obtain ⟨k, g, L, cap, hk, hL, rfl, rfl, HO⟩ := hrel
    have hLl : L ≤ 4194304 := by omega
    by_cases hlt : k < n0
    · obtain ⟨b, o, rfl, hb, hnc, hc⟩ := HS1'.out.cellAt k hlt
      have hcx := (HO.out.below.cell (p := ⟨b, o + k, none⟩) hb).trans hc
      obtain ⟨u, hu⟩ : ∃ u, x0[k]?.getD 0 = u := ⟨_, rfl⟩
      rw [hu] at hcx
      have HU := hid hu
      have hkx : k < x0.length := by rw [HS1'.out.len]; exact hlt
      have HKX := hid hkx
      clear hc hu hkx
      by_cases hsp : u = 34 ∨ u = 92
      · have HSP := hid hsp
        have hLl2 : L + 1 ≤ 4194304 := by omega
        rcases hsp with rfl | rfl
        · go_wp2_with (first | (at_builtin; refine append_byte w2 wr _ _ _ _ 92 HO.out rfl (.tmp 63) (.tmp 64) rfl rfl rfl hLl ?_; intro g5 cap5 w5 HO5) | (at_builtin; refine append_byte w2 w5 _ _ _ _ _ HO5.out rfl (.tmp 66) (.tmp 68) rfl rfl rfl hLl2 ?_; intro g6 cap6 w6 HO6))
          go_roundw
          case rel => exact ⟨k + 1, g6, L + 1 + 1, cap6, by omega, by omega, rfl, by go_num, out_special HKX.out HU.out HSP.out HO6.out⟩
          case measure => simp [intOf]; omega
        · go_wp2_with (first | (at_builtin; refine append_byte w2 wr _ _ _ _ 92 HO.out rfl (.tmp 63) (.tmp 64) rfl rfl rfl hLl ?_; intro g5 cap5 w5 HO5) | (at_builtin; refine append_byte w2 w5 _ _ _ _ _ HO5.out rfl (.tmp 66) (.tmp 68) rfl rfl rfl hLl2 ?_; intro g6 cap6 w6 HO6))
          go_roundw
          case rel => exact ⟨k + 1, g6, L + 1 + 1, cap6, by omega, by omega, rfl, by go_num, out_special HKX.out HU.out HSP.out HO6.out⟩
          case measure => simp [intOf]; omega
      · have h34 : u ≠ 34 := fun h => hsp (.inl h)
        have h92 : u ≠ 92 := fun h => hsp (.inr h)
        have b34 : (u == 34) = false := by simpa using h34
        have b92 : (u == 92) = false := by simpa using h92
        have H34 := hid h34
        have H92 := hid h92
        clear hsp h34 h92
        go_wp2_with (at_builtin; refine append_byte w2 wr _ _ _ _ _ HO.out rfl (.tmp 66) (.tmp 68) rfl rfl rfl hLl ?_; intro g5 cap5 w5 HO5)
        go_roundw
        case rel => exact ⟨k + 1, g5, L + 1, cap5, by omega, by omega, rfl, by go_num, out_plain HKX.out HU.out H34.out H92.out HO5.out⟩
        case measure => simp [intOf]; omega
    · obtain rfl : k = n0 := by omega
      have HO' : Hid (Out w2 wr g L cap (34 :: Pl.escq x0)) := by
        have := HO.out
        rwa [List.take_of_length_le (by rw [HS1'.out.len]; exact Nat.le_refl _)] at this
      clear HO
      go_wp2_with (at_builtin; refine append_byte w2 wr _ _ _ _ 34 HO'.out rfl (.tmp 72) (.tmp 73) rfl rfl rfl hLl ?_; intro g5 cap5 w5 HO5)
      have HLen : Hid ((Pl.escq x0).length + 1 = L) := by
        have := HO'.out.len
        simpa [Hid] using this
      clear HO'
      go_loopw [5, 9] (fun v i wr => ∃ j g M cap : Nat, j ≤ n1 ∧ M = L + 1 + j ∧ v = .slice (some ⟨g, 0, none⟩) M cap ∧ i = .int .i64 j ∧ Hid (Out w2 wr g M cap ((34 :: Pl.escq x0) ++ [34] ++ x1.take j))) (fun _ i _ => n1 - (intOf i).toNat)
      case atStart =>
        refine ⟨0, g5, L + 1, cap5, Nat.zero_le _, rfl, rfl, rfl, ?_⟩
        show Out w2 w5 g5 (L + 1) cap5 ((34 :: Pl.escq x0) ++ [34] ++ x1.take 0)
        rw [List.take_zero, List.append_nil]
        exact HO5.out
      case round =>
        clear HO5
        obtain ⟨j, g, M, cap, hj, hM, rfl, rfl, HO⟩ := hrel
        have hMl : M ≤ 4194304 := by omega
        have HM := hid hM
        clear hM
        by_cases hlt : j < n1
        · obtain ⟨b, o, rfl, hb, hnc, hc⟩ := HS2.out.cellAt j hlt
          have hcx := (HO.out.below.cell (p := ⟨b, o + j, none⟩) hb).trans hc
          obtain ⟨u, hu⟩ : ∃ u, x1[j]?.getD 0 = u := ⟨_, rfl⟩
          rw [hu] at hcx
          have HU := hid hu
          have hjx : j < x1.length := by rw [HS2.out.len]; exact hlt
          have HJX := hid hjx
          clear hc hu hjx
          go_wp2_with (at_builtin; refine append_byte w2 wr _ _ _ _ _ HO.out rfl (.tmp 81) (.tmp 86) rfl rfl rfl hMl ?_; intro g6 cap6 w6 HO6)
          have HO7 : Hid (Out w2 w6 g6 (M + 1) cap6 ((34 :: Pl.escq x0) ++ [34] ++ x1.take (j + 1))) := by
            have := HO6.out
            rw [List.append_assoc, ← HU.out, ← take_next x1 j HJX.out] at this
            exact this
          go_roundw
          case rel => exact ⟨j + 1, g6, M + 1, cap6, by omega, by have := HM.out; omega, rfl, by go_num, HO7⟩
          case measure => simp [intOf]; omega
        · obtain rfl : j = n1 := by omega
          have HO' : Hid (Out w2 wr g M cap (34 :: (Pl.escq x0 ++ 34 :: x1))) := by
            have := HO.out
            rw [List.take_of_length_le (by rw [HS2.out.len]; exact Nat.le_refl _)] at this
            have e : (34 :: Pl.escq x0) ++ [34] ++ x1 = 34 :: (Pl.escq x0 ++ 34 :: x1) := by simp
            rwa [e] at this
          have HSrc : Hid (Src wr.heap.size wr (some ⟨g, 0, none⟩) M cap (34 :: (Pl.escq x0 ++ 34 :: x1))) := HO'.out.src hMl (fun z hz => by
            simp only [List.mem_cons, List.mem_append] at hz
            rcases hz with rfl | hz | rfl | hz
            · omega
            · exact Pl.escq_byte x0 HS1'.out.byte z hz
            · omega
            · exact HS2.out.byte z hz)
          have HGood : Hid (Pl.Good (34 :: (Pl.escq x0 ++ 34 :: x1)) L) := by
            have := Pl.good x0 x1
            rwa [HLen.out] at this
          have hL1 : 1 ≤ L := by have := HLen.out; omega
          have hLM : L < M := by have := HM.out; omega
          have HBel := hid (Below.step HB2.out HO'.out.below)
          clear HO HO'
          go_wp2_with fail
          refine (zzskip_any M cap L _ _ _ HSrc.out HGood.out hL1 hLM).mono ?_
          rintro e w6 ⟨rfl, hB6⟩
          have HB6 := hid (Below.step HBel.out hB6)
          clear hB6
          go_wp2_with fail
          go_ret
          exact ⟨ret_bool (by simp), HB6.out⟩

end Go.Proofs.Qxb6600865a
