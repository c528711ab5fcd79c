/-
  THE WALKS of zzAllBlankLinesDocB1, zzStartsWithContentDocB1 and of the two bounds (seat b6600070a).
-/
import Derived.Test.Qxb6600070aMakes
namespace Go.Proofs.Qxb6600070a
open Go.RowKit
set_option linter.unusedVariables false

theorem ret_bool {a b : Bool} (h : a = b) : Ending.returned (.bool a) = .returned (.bool b) := by rw [h]

theorem allB1_at (xs : List Int) (j : Nat) (hj : j < xs.length) (R : Bool) (h : Pl.allB 1 (xs.drop j) = R) (v : Int) (hv : xs[j]?.getD 0 = v) :
    (v = 32 ∨ v = 9 → Pl.allB 1 (xs.drop (j + 1)) = R) ∧ (v = 35 → Pl.allB 2 (xs.drop j) = R) ∧ (v = 10 → Pl.allB 0 (xs.drop (j + 1)) = R) ∧ (v ≠ 32 → v ≠ 9 → v ≠ 35 → v ≠ 10 → R = false) := by
  rw [Pl.drop_at xs j hj, hv] at h ⊢
  simp only [Pl.allB, Pl.blank] at h ⊢
  refine ⟨?_, ?_, ?_, ?_⟩
  · rintro (rfl | rfl) <;> simpa using h
  · rintro rfl; simpa using h
  · rintro rfl; simpa using h
  · intro h1 h2 h3 h4; rw [← h]; simp [h1, h2, h3, h4]

theorem allB2_at (xs : List Int) (j : Nat) (hj : j < xs.length) (R : Bool) (h : Pl.allB 2 (xs.drop j) = R) (v : Int) (hv : xs[j]?.getD 0 = v) :
    (v = 10 → Pl.allB 0 (xs.drop (j + 1)) = R) ∧ (v ≠ 10 → Pl.allB 2 (xs.drop (j + 1)) = R) := by
  rw [Pl.drop_at xs j hj, hv] at h
  simp only [Pl.allB] at h
  refine ⟨?_, ?_⟩
  · rintro rfl; simpa using h
  · intro h1; simpa [h1] using h

theorem allB_end (xs : List Int) (j s : Nat) (hj : xs.length ≤ j) (R : Bool) (h : Pl.allB s (xs.drop j) = R) : R = (s == 0) := by
  rw [Pl.drop_end xs j hj] at h
  rw [← h]; rfl

set_option maxHeartbeats 1000000 in
theorem allblank_any (B n c : Nat) (sa : Option Addr) (xs : List Int) (w : World) (hs : Src B w sa n c xs) :
    Calls Try.prog 10 #[.slice sa n c] w fun e w' => e = .returned (.bool (Pl.allB 0 xs)) ∧ w' = w := by
  have hn := hs.small
  have HL := hid hs.len
  have HS := hid hs
  clear hs
  generalize hR : Pl.allB 0 xs = R
  have HR : Hid (Pl.allB 0 (xs.drop 0) = R) := by simpa [Hid] using hR
  clear hR
  go_enter Try.func10, Try.ntmps10
  go_wp2
  go_loop [3] (fun i => ∃ k : Nat, k ≤ n ∧ i = .int .i64 k ∧ Hid (Pl.allB 0 (xs.drop k) = R)) (fun i => n - (intOf i).toNat)
  case atStart => exact ⟨0, Nat.zero_le _, rfl, HR⟩
  case round =>
    obtain ⟨k, hk, rfl, HK⟩ := hrel
    by_cases hkn : k < n
    · have HK1 : Hid (Pl.allB 1 (xs.drop k) = R) := (Pl.allB_start xs k (by have := HL.out; omega)).symm.trans HK.out
      go_wp2
      go_loop [3] (fun i => ∃ j : Nat, k ≤ j ∧ j ≤ n ∧ i = .int .i64 j ∧ Hid (Pl.allB 1 (xs.drop j) = R)) (fun i => n - (intOf i).toNat)
      case atStart => exact ⟨k, Nat.le_refl _, hk, rfl, HK1⟩
      case round =>
        obtain ⟨j, hkj, hjn, rfl, HJ⟩ := hrel
        by_cases hlt : j < n
        · obtain ⟨b, o, rfl, hb, hnc, hc⟩ := HS.out.cellAt j hlt
          obtain ⟨v, hv⟩ : ∃ v, xs[j]?.getD 0 = v := ⟨_, rfl⟩
          have HA := hid (allB1_at xs j (by have := HL.out; omega) R HJ.out v hv)
          rw [hv] at hc
          clear hv
          by_cases h32 : v = 32
          · have HN : Hid (Pl.allB 1 (xs.drop (j + 1)) = R) := HA.out.1 (.inl h32)
            clear HA
            subst h32
            go_wp2
            go_round
            case rel => exact ⟨j + 1, by omega, by omega, by go_num, HN⟩
            case measure => simp [intOf]; omega
          have b32 : (v == 32) = false := by simpa using h32
          by_cases h9 : v = 9
          · have HN : Hid (Pl.allB 1 (xs.drop (j + 1)) = R) := HA.out.1 (.inr h9)
            clear HA h32
            subst h9
            go_wp2
            go_round
            case rel => exact ⟨j + 1, by omega, by omega, by go_num, HN⟩
            case measure => simp [intOf]; omega
          have b9 : (v == 9) = false := by simpa using h9
          have bl : ((j : Int) == (n : Int)) = false := by simp; omega
          by_cases h35 : v = 35
          · have HN : Hid (Pl.allB 2 (xs.drop j) = R) := HA.out.2.1 h35
            clear HA h32 h9
            subst h35
            go_wp2
            go_loop [3] (fun i => ∃ m : Nat, j ≤ m ∧ m ≤ n ∧ i = .int .i64 m ∧ Hid (Pl.allB 2 (xs.drop m) = R)) (fun i => n - (intOf i).toNat)
            case atStart => exact ⟨j, Nat.le_refl _, hjn, rfl, HN⟩
            case round =>
              obtain ⟨m, hjm, hmn, rfl, HM⟩ := hrel
              clear hc bl
              by_cases hmt : m < n
              · obtain ⟨b', o', e, hb, hnc, hc⟩ := HS.out.cellAt m hmt
                simp only [Option.some.injEq, Addr.mk.injEq, and_true] at e
                obtain ⟨rfl, rfl⟩ := e
                obtain ⟨u, hu⟩ : ∃ u, xs[m]?.getD 0 = u := ⟨_, rfl⟩
                have HA := hid (allB2_at xs m (by have := HL.out; omega) R HM.out u hu)
                rw [hu] at hc
                clear hu
                by_cases h10 : u = 10
                · have HN : Hid (Pl.allB 0 (xs.drop (m + 1)) = R) := HA.out.1 h10
                  clear HA
                  subst h10
                  have bm : ((m : Int) == (n : Int)) = false := by simp; omega
                  go_wp2
                  go_round
                  case rel => exact ⟨m + 1, by omega, by go_num, HN⟩
                  case measure => simp [intOf]; omega
                · have HN : Hid (Pl.allB 2 (xs.drop (m + 1)) = R) := HA.out.2 h10
                  clear HA
                  have b10 : (u != 10) = true := by simpa using h10
                  clear h10
                  go_wp2
                  go_round
                  case rel => exact ⟨m + 1, by omega, by omega, by go_num, HN⟩
                  case measure => simp [intOf]; omega
              · obtain rfl : m = n := by omega
                have HF := hid (allB_end xs m 2 (by have := HL.out; omega) R HM.out)
                go_wp2
                go_ret
                exact ⟨ret_bool HF.out.symm, rfl⟩
          · have b35 : (v == 35) = false := by simpa using h35
            by_cases h10 : v = 10
            · have HN : Hid (Pl.allB 0 (xs.drop (j + 1)) = R) := HA.out.2.2.1 h10
              clear HA h32 h9 h35
              subst h10
              go_wp2
              go_round
              case rel => exact ⟨j + 1, by omega, by go_num, HN⟩
              case measure => simp [intOf]; omega
            · have HF := hid (HA.out.2.2.2 h32 h9 h35 h10)
              have b10 : (v != 10) = true := by simpa using h10
              clear HA h32 h9 h35 h10
              go_wp2
              go_ret
              exact ⟨ret_bool HF.out.symm, rfl⟩
        · obtain rfl : j = n := by omega
          have HF := hid (allB_end xs j 1 (by have := HL.out; omega) R HJ.out)
          go_wp2
          go_ret
          exact ⟨ret_bool HF.out.symm, rfl⟩
    · obtain rfl : k = n := by omega
      have HF := hid (allB_end xs k 0 (by have := HL.out; omega) R HK.out)
      go_wp2
      go_ret
      exact ⟨ret_bool HF.out.symm, rfl⟩

theorem content_at (xs : List Int) (j : Nat) (hj : j < xs.length) (R : Bool) (h : Pl.content (xs.drop j) = R) (v : Int) (hv : xs[j]?.getD 0 = v) :
    (v = 32 ∨ v = 9 → Pl.content (xs.drop (j + 1)) = R) ∧ (v ≠ 32 → v ≠ 9 → R = (v != 10 && v != 35 && v != 0)) := by
  rw [Pl.drop_at xs j hj, hv] at h
  simp only [Pl.content, Pl.blank] at h
  refine ⟨?_, ?_⟩
  · rintro (rfl | rfl) <;> simpa using h
  · intro h1 h2; rw [← h]; simp [h1, h2]

set_option maxHeartbeats 1000000 in
theorem content_any (B n c : Nat) (sa : Option Addr) (xs : List Int) (w : World) (hs : Src B w sa n c xs) :
    Calls Try.prog 13 #[.slice sa n c] w fun e w' => e = .returned (.bool (Pl.content xs)) ∧ w' = w := by
  have hn := hs.small
  have HL := hid hs.len
  have HS := hid hs
  clear hs
  generalize hR : Pl.content xs = R
  have HR : Hid (Pl.content (xs.drop 0) = R) := by simpa [Hid] using hR
  clear hR
  go_enter Try.func13, Try.ntmps13
  go_wp2
  go_loop [3] (fun i => ∃ j : Nat, j ≤ n ∧ i = .int .i64 j ∧ Hid (Pl.content (xs.drop j) = R)) (fun i => n - (intOf i).toNat)
  case atStart => exact ⟨0, Nat.zero_le _, rfl, HR⟩
  case round =>
    obtain ⟨j, hjn, rfl, HJ⟩ := hrel
    by_cases hlt : j < n
    · obtain ⟨b, o, rfl, hb, hnc, hc⟩ := HS.out.cellAt j hlt
      obtain ⟨v, hv⟩ : ∃ v, xs[j]?.getD 0 = v := ⟨_, rfl⟩
      have HA := hid (content_at xs j (by have := HL.out; omega) R HJ.out v hv)
      rw [hv] at hc
      clear hv
      by_cases h32 : v = 32
      · have HN : Hid (Pl.content (xs.drop (j + 1)) = R) := HA.out.1 (.inl h32)
        clear HA
        subst h32
        go_wp2
        go_round
        case rel => exact ⟨j + 1, by omega, by go_num, HN⟩
        case measure => simp [intOf]; omega
      have b32 : (v == 32) = false := by simpa using h32
      by_cases h9 : v = 9
      · have HN : Hid (Pl.content (xs.drop (j + 1)) = R) := HA.out.1 (.inr h9)
        clear HA h32
        subst h9
        go_wp2
        go_round
        case rel => exact ⟨j + 1, by omega, by go_num, HN⟩
        case measure => simp [intOf]; omega
      have b9 : (v == 9) = false := by simpa using h9
      have bl : ((j : Int) == (n : Int)) = false := by simp; omega
      have HF := hid (HA.out.2 h32 h9)
      clear HA h32 h9
      by_cases h10 : v = 10
      · subst h10
        go_wp2
        go_ret
        exact ⟨ret_bool HF.out.symm, rfl⟩
      have b10 : (v != 10) = true := by simpa using h10
      by_cases h35 : v = 35
      · subst h35
        go_wp2
        go_ret
        exact ⟨ret_bool HF.out.symm, rfl⟩
      have b35 : (v != 35) = true := by simpa using h35
      by_cases h0 : v = 0
      · subst h0
        go_wp2
        go_ret
        exact ⟨ret_bool HF.out.symm, rfl⟩
      have b0 : (v != 0) = true := by simpa using h0
      have HT : Hid (R = true) := by rw [HF.out, b10, b35, b0]; rfl
      clear HF h10 h35 h0
      go_wp2
      go_ret
      exact ⟨ret_bool HT.out.symm, rfl⟩
    · obtain rfl : j = n := by omega
      have HF : Hid (R = false) := by
        have := HJ.out
        rw [Pl.drop_end xs j (by have := HL.out; omega)] at this
        exact this.symm
      go_wp2
      go_ret
      exact ⟨ret_bool HF.out.symm, rfl⟩

end Go.Proofs.Qxb6600070a
