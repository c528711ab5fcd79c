/-
  zzb1CloneBytes, and an argument as a text (seat b6600865a).
-/
import Derived.Test.Qxb6600865aReads
import Derived.Lib.SliceRun
import Derived.OpenShut
namespace Go.Proofs.Qxb6600865a
open Go.RowKit
set_option linter.unusedVariables false

theorem Try.info5 : (Try.prog.info? 5).map (fun i => (i.zero, i.size, i.bytes)) = some (some (.int .u8 0), 1, 1) := by kernel_rfl

/-- What a made slice of n bytes holds so far: its first k bytes are those of xs. -/
structure Made (B n k : Nat) (xs : List Int) (w wr : World) : Prop where
  own : ∃ ys, wr.ownsRow B 5 1 (.slice (some ⟨B, 0, none⟩) n n) n ys ∧ ∀ j, j < k → ys[j]? = some (.int .u8 (xs[j]?.getD 0))
  below : Below B w wr

theorem Made.zero {B n : Nat} {xs : List Int} {w wr : World} {ys : List Value} (h : wr.ownsRow B 5 1 (.slice (some ⟨B, 0, none⟩) n n) n ys) (hb : Below B w wr) : Made B n 0 xs w wr :=
  ⟨⟨ys, h, fun j hj => absurd hj (by omega)⟩, hb⟩

theorem Made.cell {B n k : Nat} {xs : List Int} {w wr : World} (h : Made B n k xs w wr) (i : Nat) (hi : i < n) : ∃ y, wr.cell? ⟨B, i, none⟩ = some y := by
  obtain ⟨ys, ho, _⟩ := h.own
  have hl : ys.length = n * 1 := ho.1
  have hc := ho.cellAt i (by omega)
  rw [List.getElem?_eq_getElem (by omega)] at hc
  exact ⟨_, hc⟩

theorem Made.free {B n k : Nat} {xs : List Int} {w wr : World} (h : Made B n k xs w wr) (i : Nat) : wr.frozen? ⟨B, i, none⟩ = false := by
  obtain ⟨ys, ho, _⟩ := h.own
  exact ho.frozenAt i

theorem Made.store {B n k : Nat} {xs : List Int} {w wr : World} (h : Made B n k xs w wr) (hk : k < n) : Made B n (k + 1) xs w (wr.setCell ⟨B, k, none⟩ (.int .u8 (xs[k]?.getD 0))) := by
  obtain ⟨ys, ho, hy⟩ := h.own
  have hl : ys.length = n * 1 := ho.1
  refine ⟨⟨_, (ho.stored k _).1, fun j hj => ?_⟩, h.below.setCell (Nat.le_refl _) _⟩
  by_cases e : j = k
  · subst e
    rw [List.getElem?_set_self (by omega)]
  · rw [List.getElem?_set_ne (by omega)]
    exact hy j (by omega)

theorem Made.src {B n : Nat} {xs : List Int} {w wr : World} (h : Made B n n xs w wr) (hx : xs.length = n) (hn : n ≤ 4194304) (hr : ∀ z ∈ xs, 0 ≤ z ∧ z ≤ 255) : Src wr.heap.size wr (some ⟨B, 0, none⟩) n n xs := by
  obtain ⟨ys, ho, hy⟩ := h.own
  refine ⟨hx, hn, hr, ?_⟩
  by_cases h0 : n = 0
  · exact .inl h0
  · have hc : ∀ i, i < n → wr.cell? ⟨B, 0 + i, none⟩ = some (.int .u8 (xs[i]?.getD 0)) := fun i hi => by
      rw [Nat.zero_add, ho.cellAt i (by omega), hy i hi]
    exact .inr ⟨B, 0, rfl, World.block_lt_of_cell? wr ⟨B, 0 + 0, none⟩ (hc 0 (by omega)), Nat.le_refl _, hc⟩

/-- zzCloneDocB1 of nil -/
theorem clone_nil (w : World) : Calls Try.prog 13 #[.slice none 0 0] w fun e w' => e = .returned (.slice none 0 0) ∧ w' = w := by
  have h0 := fun (w : World) => Lib.run_eql_slice_nil (P := Try.prog) w 23 5 none 0 0 0 0 Try.underlying23
  go_enter Try.func13, Try.ntmps13
  go_wp2
  go_ret
  exact ⟨rfl, rfl⟩

set_option maxHeartbeats 400000 in
theorem clone_some (x : Addr) (n c : Nat) (xs : List Int) (w : World) (hs : Src w.heap.size w (some x) n c xs) :
    Calls Try.prog 13 #[.slice (some x) n c] w fun e w' => e = .returned (.slice (some ⟨w.heap.size, 0, none⟩) n n) ∧ Made w.heap.size n n xs w w' := by
  obtain ⟨i0, hi, hz0, hz1, hz2⟩ := info_parts Try.info5
  have hn := hs.small
  have HS := hid hs
  clear hs
  have h0 := fun (w : World) => Lib.run_eql_slice_nil (P := Try.prog) w 23 5 (some x) n c 0 0 Try.underlying23
  go_enter Try.func13, Try.ntmps13
  go_wp2_with (at_make; refine wpList_make_full _ rfl _ _ 23 rfl w.heap.size 5 i0 (.int .u8 0) 1 Try.underlying23 hi hz0 hz1 .i64 .i64 _ _ n rfl rfl rfl rfl (by rw [hz2]; omega) (by unfold maxLen; omega) (Nat.le_refl _) ?_; intro w1 hown hgrow)
  have hM0 : Made w.heap.size n 0 xs w w1 := Made.zero hown ((Below.refl _ _).grown hgrow (Nat.le_refl _) (fun k h => by cases h))
  have HM0 := hid hM0
  clear hM0 hown hgrow
  go_loopw [4] (fun i wr => ∃ k : Nat, k ≤ n ∧ i = .int .i64 k ∧ Hid (Made w.heap.size n k xs w wr)) (fun i _ => n - (intOf i).toNat)
  case atStart => exact ⟨0, Nat.zero_le _, rfl, HM0⟩
  case round =>
    obtain ⟨k, hk, rfl, HM⟩ := hrel
    by_cases hlt : k < n
    · obtain ⟨b, o, rfl, hb, hnc, hc⟩ : ∃ b o, x = ⟨b, o, none⟩ ∧ b < w.heap.size ∧ n ≤ c ∧ ∀ i, i < n → w.cell? ⟨b, o + i, none⟩ = some (.int .u8 (xs[i]?.getD 0)) := by
        rcases HS.out.here with h | ⟨b, o, e, hb, hnc, hc⟩
        · omega
        · exact ⟨b, o, by simpa using e, hb, hnc, hc⟩
      have hcx := (HM.out.below.cell (p := ⟨b, o + k, none⟩) hb).trans (hc k hlt)
      obtain ⟨y, hy⟩ := HM.out.cell k hlt
      have hf := HM.out.free k
      clear hc
      go_wp2
      go_roundw
      case rel => exact ⟨k + 1, by omega, by go_num, hid (HM.out.store hlt)⟩
      case measure => simp [intOf]; omega
    · obtain rfl : k = n := by omega
      go_wp2
      go_ret
      exact ⟨rfl, HM.out⟩

theorem Src.cellAt {B : Nat} {w : World} {sa : Option Addr} {n c : Nat} {xs : List Int} (h : Src B w sa n c xs) (k : Nat) (hk : k < n) :
    ∃ b o, sa = some ⟨b, o, none⟩ ∧ b < B ∧ n ≤ c ∧ w.cell? ⟨b, o + k, none⟩ = some (.int .u8 (xs[k]?.getD 0)) := by
  rcases h.here with h | ⟨b, o, e, hb, hnc, hc⟩
  · omega
  · exact ⟨b, o, e, hb, hnc, hc k hk⟩

theorem src_of {w : World} {a : Option Addr} {len cap : Nat} {zs : List Int}
    (h : (a = none ∧ len = 0 ∧ cap = 0 ∧ zs = []) ∨ ∃ x, a = some x ∧ len ≤ cap ∧ cap ≤ maxLen ∧ zs.length = cap ∧ (∀ i, i < zs.length → w.cell? (x.add i) = some (.int .u8 (zs.getD i 0))) ∧ ∀ n ∈ zs, (Lit.int .u8 n).wf = true)
    (hl : len ≤ 4194304) : Src w.heap.size w a len cap (zs.take len) := by
  rcases h with ⟨rfl, rfl, rfl, rfl⟩ | ⟨x, rfl, hlc, hm, hz, hc, hw⟩
  · exact ⟨rfl, by omega, by simp, .inl rfl⟩
  · refine ⟨by simp; omega, hl, fun z hz => ?_, ?_⟩
    · exact bounds_u8 (hw z (List.mem_of_mem_take hz))
    · by_cases h0 : len = 0
      · exact .inl h0
      · obtain ⟨b, o, rfl, hc'⟩ := ints_at hc (by omega)
        refine .inr ⟨b, o, rfl, ?_, hlc, fun i hi => ?_⟩
        · exact World.block_lt_of_cell? w ⟨b, o + 0, none⟩ (hc' 0 (by omega))
        · rw [hc' i (by omega), List.getElem?_take_of_lt hi, List.getD_eq_getElem?_getD]

theorem len_of {w : World} {a : Option Addr} {len cap : Nat} {zs : List Int}
    (h : (a = none ∧ len = 0 ∧ cap = 0 ∧ zs = []) ∨ ∃ x, a = some x ∧ len ≤ cap ∧ cap ≤ maxLen ∧ zs.length = cap ∧ (∀ i, i < zs.length → w.cell? (x.add i) = some (.int .u8 (zs.getD i 0))) ∧ ∀ n ∈ zs, (Lit.int .u8 n).wf = true) :
    len ≤ maxLen ∧ (a = none → len = 0 ∧ cap = 0) := by
  rcases h with ⟨rfl, rfl, rfl, rfl⟩ | ⟨x, rfl, hlc, hm, hz, hc, hw⟩
  · exact ⟨Nat.zero_le _, fun _ => ⟨rfl, rfl⟩⟩
  · exact ⟨Nat.le_trans hlc hm, fun h => by cases h⟩

theorem clone_any (sa : Option Addr) (n c : Nat) (xs : List Int) (w : World) (hs : Src w.heap.size w sa n c xs) (hnil : sa = none → n = 0 ∧ c = 0) :
    Calls Try.prog 13 #[.slice sa n c] w fun e w' => ∃ sa' c', e = .returned (.slice sa' n c') ∧ Src w'.heap.size w' sa' n c' xs ∧ Below w.heap.size w w' := by
  cases sa with
  | none =>
    obtain ⟨rfl, rfl⟩ := hnil rfl
    refine (clone_nil w).mono ?_
    rintro e w' ⟨rfl, rfl⟩
    exact ⟨none, 0, rfl, hs, Below.refl _ _⟩
  | some x =>
    refine (clone_some x n c xs w hs).mono ?_
    rintro e w' ⟨rfl, hm⟩
    exact ⟨_, n, rfl, hm.src hs.len hs.small hs.byte, hm.below⟩

/-- A text stays where new blocks are laid. -/
theorem Src.later {w w' : World} {sa : Option Addr} {n c : Nat} {xs : List Int} (h : Src w.heap.size w sa n c xs) (hb : Below w.heap.size w w') : Src w'.heap.size w' sa n c xs := (h.below hb).mono hb.size

theorem Below.step {w w1 w2 : World} (h : Below w.heap.size w w1) (h2 : Below w1.heap.size w1 w2) : Below w.heap.size w w2 := h.trans (h2.mono h.size)

theorem bytes2_yes (sa sb : Option Addr) (na ca nb cb : Nat) (w : World) (h : na + nb ≤ 1048576) :
    Calls Try.prog 20 #[.slice sa na ca, .slice sb nb cb] w fun e w' => e = .returned (.bool true) ∧ w' = w := by
  go_enter Try.func20, Try.ntmps20
  go_wp2
  go_ret
  exact ⟨rfl, rfl⟩

theorem bytes2_no (sa sb : Option Addr) (na ca nb cb : Nat) (w : World) (ha : na ≤ maxLen) (hb : nb ≤ maxLen) (h : 1048576 < na + nb) :
    Calls Try.prog 20 #[.slice sa na ca, .slice sb nb cb] w fun e w' => e = .returned (.bool false) ∧ w' = w := by
  unfold maxLen at ha hb
  by_cases h1 : 1048576 < na
  · go_enter Try.func20, Try.ntmps20
    go_wp2
    go_ret
    exact ⟨rfl, rfl⟩
  by_cases h2 : 1048576 < nb
  · go_enter Try.func20, Try.ntmps20
    go_wp2
    go_ret
    exact ⟨rfl, rfl⟩
  · go_enter Try.func20, Try.ntmps20
    go_wp2
    go_ret
    exact ⟨rfl, rfl⟩

end Go.Proofs.Qxb6600865a
