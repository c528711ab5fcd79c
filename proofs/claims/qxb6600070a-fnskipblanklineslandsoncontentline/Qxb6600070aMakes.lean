/-
  THE WALKS of zzCloneDocB1, zzConcatDocB1 (seat b6600070a).
-/
import Derived.Test.Qxb6600070aReads
import Derived.Deep.LoopGhost
import Derived.Lib.SliceRun
namespace Go.Proofs.Qxb6600070a
open Go.RowKit
set_option linter.unusedVariables false

theorem Try.info5 : (Try.prog.info? 5).map (fun i => (i.zero, i.size, i.bytes)) = some (some (.int .u8 0), 1, 1) := by kernel_rfl

/-- What a made slice of n bytes holds so far: its first k bytes are those of xs. -/
structure Made (B n k : Nat) (xs : List Int) (w wr : World) : Prop where
  own : ∃ ys, wr.ownsRow B 5 1 (.slice (some ⟨B, 0, none⟩) n n) n ys ∧ ∀ j, j < k → ys[j]? = some (.int .u8 (xs[j]?.getD 0))
  below : Below B w wr

theorem Made.zero {B n : Nat} {xs : List Int} {w wr : World} {ys : List Value} (h : wr.ownsRow B 5 1 (.slice (some ⟨B, 0, none⟩) n n) n ys) (hb : Below B w wr) : Made B n 0 xs w wr :=
  ⟨⟨ys, h, fun j hj => absurd hj (by omega)⟩, hb⟩

theorem Made.cell {B n k : Nat} {xs : List Int} {w wr : World} (h : Made B n k xs w wr) (i : Nat) (hi : i < n) : ∃ y, wr.cell? ⟨B, i, none⟩ = some y := by
  obtain ⟨ys, ho, _⟩ := h.own
  have hl : ys.length = n * 1 := ho.1
  have hc := ho.cellAt i (by omega)
  rw [List.getElem?_eq_getElem (by omega)] at hc
  exact ⟨_, hc⟩

theorem Made.free {B n k : Nat} {xs : List Int} {w wr : World} (h : Made B n k xs w wr) (i : Nat) : wr.frozen? ⟨B, i, none⟩ = false := by
  obtain ⟨ys, ho, _⟩ := h.own
  exact ho.frozenAt i

theorem Made.store {B n k : Nat} {xs : List Int} {w wr : World} (h : Made B n k xs w wr) (hk : k < n) : Made B n (k + 1) xs w (wr.setCell ⟨B, k, none⟩ (.int .u8 (xs[k]?.getD 0))) := by
  obtain ⟨ys, ho, hy⟩ := h.own
  have hl : ys.length = n * 1 := ho.1
  refine ⟨⟨_, (ho.stored k _).1, fun j hj => ?_⟩, h.below.setCell (Nat.le_refl _) _⟩
  by_cases e : j = k
  · subst e
    rw [List.getElem?_set_self (by omega)]
  · rw [List.getElem?_set_ne (by omega)]
    exact hy j (by omega)

theorem Made.src {B n : Nat} {xs : List Int} {w wr : World} (h : Made B n n xs w wr) (hx : xs.length = n) (hn : n ≤ 1048576) (hr : ∀ z ∈ xs, 0 ≤ z ∧ z ≤ 255) : Src wr.heap.size wr (some ⟨B, 0, none⟩) n n xs := by
  obtain ⟨ys, ho, hy⟩ := h.own
  refine ⟨hx, hn, hr, ?_⟩
  by_cases h0 : n = 0
  · exact .inl h0
  · have hc : ∀ i, i < n → wr.cell? ⟨B, 0 + i, none⟩ = some (.int .u8 (xs[i]?.getD 0)) := fun i hi => by
      rw [Nat.zero_add, ho.cellAt i (by omega), hy i hi]
    exact .inr ⟨B, 0, rfl, World.block_lt_of_cell? wr ⟨B, 0 + 0, none⟩ (hc 0 (by omega)), Nat.le_refl _, hc⟩

/-- zzCloneDocB1 of nil -/
theorem clone_nil (w : World) : Calls Try.prog 7 #[.slice none 0 0] w fun e w' => e = .returned (.slice none 0 0) ∧ w' = w := by
  have h0 := fun (w : World) => Lib.run_eql_slice_nil (P := Try.prog) w 22 5 none 0 0 0 0 Try.underlying22
  go_enter Try.func7, Try.ntmps7
  go_wp2
  go_ret
  exact ⟨rfl, rfl⟩

set_option maxHeartbeats 400000 in
theorem clone_some (x : Addr) (n c : Nat) (xs : List Int) (w : World) (hs : Src w.heap.size w (some x) n c xs) :
    Calls Try.prog 7 #[.slice (some x) n c] w fun e w' => e = .returned (.slice (some ⟨w.heap.size, 0, none⟩) n n) ∧ Made w.heap.size n n xs w w' := by
  obtain ⟨i0, hi, hz0, hz1, hz2⟩ := info_parts Try.info5
  have hn := hs.small
  have HS := hid hs
  clear hs
  have h0 := fun (w : World) => Lib.run_eql_slice_nil (P := Try.prog) w 22 5 (some x) n c 0 0 Try.underlying22
  go_enter Try.func7, Try.ntmps7
  go_wp2_with (at_make; refine wpList_make_full _ rfl _ _ 22 rfl w.heap.size 5 i0 (.int .u8 0) 1 Try.underlying22 hi hz0 hz1 .i64 .i64 _ _ n rfl rfl rfl rfl (by rw [hz2]; omega) (by unfold maxLen; omega) (Nat.le_refl _) ?_; intro w1 hown hgrow)
  have hM0 : Made w.heap.size n 0 xs w w1 := Made.zero hown ((Below.refl _ _).grown hgrow (Nat.le_refl _) (fun k h => by cases h))
  have HM0 := hid hM0
  clear hM0 hown hgrow
  go_loopw [4] (fun i wr => ∃ k : Nat, k ≤ n ∧ i = .int .i64 k ∧ Hid (Made w.heap.size n k xs w wr)) (fun i _ => n - (intOf i).toNat)
  case atStart => exact ⟨0, Nat.zero_le _, rfl, HM0⟩
  case round =>
    obtain ⟨k, hk, rfl, HM⟩ := hrel
    by_cases hlt : k < n
    · obtain ⟨b, o, rfl, hb, hnc, hc⟩ : ∃ b o, x = ⟨b, o, none⟩ ∧ b < w.heap.size ∧ n ≤ c ∧ ∀ i, i < n → w.cell? ⟨b, o + i, none⟩ = some (.int .u8 (xs[i]?.getD 0)) := by
        rcases HS.out.here with h | ⟨b, o, e, hb, hnc, hc⟩
        · omega
        · exact ⟨b, o, by simpa using e, hb, hnc, hc⟩
      have hcx := (HM.out.below.cell (p := ⟨b, o + k, none⟩) hb).trans (hc k hlt)
      obtain ⟨y, hy⟩ := HM.out.cell k hlt
      have hf := HM.out.free k
      clear hc
      go_wp2
      go_roundw
      case rel => exact ⟨k + 1, by omega, by go_num, hid (HM.out.store hlt)⟩
      case measure => simp [intOf]; omega
    · obtain rfl : k = n := by omega
      go_wp2
      go_ret
      exact ⟨rfl, HM.out⟩

theorem Made.store' {B n k : Nat} {xs : List Int} {w wr : World} (h : Made B n k xs w wr) (hk : k < n) (v : Int) (hv : xs[k]?.getD 0 = v) : Made B n (k + 1) xs w (wr.setCell ⟨B, k, none⟩ (.int .u8 v)) := by
  subst hv
  exact h.store hk

theorem Src.cellAt {B : Nat} {w : World} {sa : Option Addr} {n c : Nat} {xs : List Int} (h : Src B w sa n c xs) (k : Nat) (hk : k < n) :
    ∃ b o, sa = some ⟨b, o, none⟩ ∧ b < B ∧ n ≤ c ∧ w.cell? ⟨b, o + k, none⟩ = some (.int .u8 (xs[k]?.getD 0)) := by
  rcases h.here with h | ⟨b, o, e, hb, hnc, hc⟩
  · omega
  · exact ⟨b, o, e, hb, hnc, hc k hk⟩

set_option maxHeartbeats 400000 in
theorem concat_any (sa sb : Option Addr) (na ca nb cb : Nat) (xa xb : List Int) (w : World) (hA : Src w.heap.size w sa na ca xa) (hB : Src w.heap.size w sb nb cb xb) :
    Calls Try.prog 11 #[.slice sa na ca, .slice sb nb cb] w fun e w' => e = .returned (.slice (some ⟨w.heap.size, 0, none⟩) (na + nb) (na + nb)) ∧ Made w.heap.size (na + nb) (na + nb) (xa ++ xb) w w' := by
  obtain ⟨i0, hi, hz0, hz1, hz2⟩ := info_parts Try.info5
  have hna := hA.small
  have hnb := hB.small
  have HA := hid hA
  have HB := hid hB
  clear hA hB
  go_enter Try.func11, Try.ntmps11
  go_wp2_with (at_make; refine wpList_make_full _ rfl _ _ 22 rfl w.heap.size 5 i0 (.int .u8 0) 1 Try.underlying22 hi hz0 hz1 .i64 .i64 _ _ (na + nb) rfl rfl (by omega) (by omega) (by rw [hz2]; omega) (by unfold maxLen; omega) (Nat.le_refl _) ?_; intro w1 hown hgrow)
  have HM0 := hid (Made.zero (xs := xa ++ xb) hown ((Below.refl _ _).grown hgrow (Nat.le_refl _) (fun k h => by cases h)))
  clear hown hgrow
  go_loopw [6] (fun i wr => ∃ k : Nat, k ≤ na ∧ i = .int .i64 k ∧ Hid (Made w.heap.size (na + nb) k (xa ++ xb) w wr)) (fun i _ => na - (intOf i).toNat)
  case atStart => exact ⟨0, Nat.zero_le _, rfl, HM0⟩
  case round =>
    obtain ⟨k, hk, rfl, HM⟩ := hrel
    by_cases hlt : k < na
    · obtain ⟨b, o, rfl, hb, hnc, hc⟩ := HA.out.cellAt k hlt
      have hcx := (HM.out.below.cell (p := ⟨b, o + k, none⟩) hb).trans hc
      obtain ⟨y, hy⟩ := HM.out.cell k (by omega)
      have hf := HM.out.free k
      have HN := hid (HM.out.store' (by omega) (xa[k]?.getD 0) (by rw [List.getElem?_append_left (by have := HA.out.len; omega)]))
      clear hc
      go_wp2
      go_roundw
      case rel => exact ⟨k + 1, by omega, by go_num, HN⟩
      case measure => simp [intOf]; omega
    · obtain rfl : k = na := by omega
      go_wp2
      go_loopw [7] (fun i wr => ∃ j : Nat, j ≤ nb ∧ i = .int .i64 j ∧ Hid (Made w.heap.size (k + nb) (k + j) (xa ++ xb) w wr)) (fun i _ => nb - (intOf i).toNat)
      case atStart => exact ⟨0, Nat.zero_le _, rfl, HM⟩
      case round =>
        obtain ⟨j, hj, rfl, HJ⟩ := hrel
        by_cases hlt : j < nb
        · obtain ⟨b, o, rfl, hb, hnc, hc⟩ := HB.out.cellAt j hlt
          have hcx := (HJ.out.below.cell (p := ⟨b, o + j, none⟩) hb).trans hc
          obtain ⟨y, hy⟩ := HJ.out.cell (k + j) (by omega)
          have hf := HJ.out.free (k + j)
          have HN := hid (HJ.out.store' (by omega) (xb[j]?.getD 0) (by rw [List.getElem?_append_right (by have := HA.out.len; omega), show k + j - xa.length = j from by have := HA.out.len; omega]))
          clear hc
          go_wp2
          go_roundw
          case rel => exact ⟨j + 1, by omega, by go_num, HN⟩
          case measure => simp [intOf]; omega
        · obtain rfl : j = nb := by omega
          go_wp2
          go_ret
          exact ⟨rfl, HJ.out⟩

end Go.Proofs.Qxb6600070a
