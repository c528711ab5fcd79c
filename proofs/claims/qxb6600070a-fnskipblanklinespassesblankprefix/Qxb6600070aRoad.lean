/-
  WHAT BOTH LAWS SHARE (seat b6600070a): an argument as a text; a clone of it, nil or not; the joined text.
-/
import Derived.Test.Qxb6600070aZz
import Derived.Test.Qxb6600070aBounds
import Derived.OpenShut
namespace Go.Proofs.Qxb6600070a
open Go.RowKit
set_option linter.unusedVariables false

theorem src_of {w : World} {a : Option Addr} {len cap : Nat} {zs : List Int}
    (h : (a = none ∧ len = 0 ∧ cap = 0 ∧ zs = []) ∨ ∃ x, a = some x ∧ len ≤ cap ∧ cap ≤ maxLen ∧ zs.length = cap ∧ (∀ i, i < zs.length → w.cell? (x.add i) = some (.int .u8 (zs.getD i 0))) ∧ ∀ n ∈ zs, (Lit.int .u8 n).wf = true)
    (hl : len ≤ 1048576) : Src w.heap.size w a len cap (zs.take len) := by
  rcases h with ⟨rfl, rfl, rfl, rfl⟩ | ⟨x, rfl, hlc, hm, hz, hc, hw⟩
  · exact ⟨rfl, by omega, by simp, .inl rfl⟩
  · refine ⟨by simp; omega, hl, fun z hz => ?_, ?_⟩
    · exact bounds_u8 (hw z (List.mem_of_mem_take hz))
    · by_cases h0 : len = 0
      · exact .inl h0
      · obtain ⟨b, o, rfl, hc'⟩ := ints_at hc (by omega)
        refine .inr ⟨b, o, rfl, ?_, hlc, fun i hi => ?_⟩
        · exact World.block_lt_of_cell? w ⟨b, o + 0, none⟩ (hc' 0 (by omega))
        · rw [hc' i (by omega), List.getElem?_take_of_lt hi, List.getD_eq_getElem?_getD]

theorem len_of {w : World} {a : Option Addr} {len cap : Nat} {zs : List Int}
    (h : (a = none ∧ len = 0 ∧ cap = 0 ∧ zs = []) ∨ ∃ x, a = some x ∧ len ≤ cap ∧ cap ≤ maxLen ∧ zs.length = cap ∧ (∀ i, i < zs.length → w.cell? (x.add i) = some (.int .u8 (zs.getD i 0))) ∧ ∀ n ∈ zs, (Lit.int .u8 n).wf = true) :
    len ≤ maxLen ∧ (a = none → len = 0 ∧ cap = 0) := by
  rcases h with ⟨rfl, rfl, rfl, rfl⟩ | ⟨x, rfl, hlc, hm, hz, hc, hw⟩
  · exact ⟨Nat.zero_le _, fun _ => ⟨rfl, rfl⟩⟩
  · exact ⟨Nat.le_trans hlc hm, fun h => by cases h⟩

theorem clone_any (sa : Option Addr) (n c : Nat) (xs : List Int) (w : World) (hs : Src w.heap.size w sa n c xs) (hnil : sa = none → n = 0 ∧ c = 0) :
    Calls Try.prog 7 #[.slice sa n c] w fun e w' => ∃ sa' c', e = .returned (.slice sa' n c') ∧ Src w'.heap.size w' sa' n c' xs ∧ Below w.heap.size w w' := by
  cases sa with
  | none =>
    obtain ⟨rfl, rfl⟩ := hnil rfl
    refine (clone_nil w).mono ?_
    rintro e w' ⟨rfl, rfl⟩
    exact ⟨none, 0, rfl, hs, Below.refl _ _⟩
  | some x =>
    refine (clone_some x n c xs w hs).mono ?_
    rintro e w' ⟨rfl, hm⟩
    exact ⟨_, n, rfl, hm.src hs.len hs.small hs.byte, hm.below⟩

theorem join_any (sa sb : Option Addr) (na ca nb cb : Nat) (xa xb : List Int) (w : World) (hA : Src w.heap.size w sa na ca xa) (hB : Src w.heap.size w sb nb cb xb) (hn : na + nb ≤ 1048576) :
    Calls Try.prog 11 #[.slice sa na ca, .slice sb nb cb] w fun e w' => ∃ sa', e = .returned (.slice sa' (na + nb) (na + nb)) ∧ Src w'.heap.size w' sa' (na + nb) (na + nb) (xa ++ xb) ∧ Below w.heap.size w w' := by
  refine (concat_any sa sb na ca nb cb xa xb w hA hB).mono ?_
  rintro e w' ⟨rfl, hm⟩
  refine ⟨_, rfl, hm.src (by rw [List.length_append, hA.len, hB.len]) hn (fun z hz => ?_), hm.below⟩
  rcases List.mem_append.1 hz with h | h
  · exact hA.byte z h
  · exact hB.byte z h

/-- A text stays where new blocks are laid. -/
theorem Src.later {w w' : World} {sa : Option Addr} {n c : Nat} {xs : List Int} (h : Src w.heap.size w sa n c xs) (hb : Below w.heap.size w w') : Src w'.heap.size w' sa n c xs := (h.below hb).mono hb.size

theorem Below.step {w w1 w2 : World} (h : Below w.heap.size w w1) (h2 : Below w1.heap.size w1 w2) : Below w.heap.size w w2 := h.trans (h2.mono h.size)

theorem zzskip_v (n c k R : Nat) (sa : Option Addr) (xs : List Int) (w : World) (hs : Src w.heap.size w sa n c xs) (hk : k ≤ n) (hR : Hid (Pl.scan false k k (xs.drop k) = R)) :
    Calls Try.prog 8 #[.slice sa n c, .int .i64 k] w fun e w' => e = .returned (.int .i64 R) ∧ Below w.heap.size w w' := by
  have := zzskip_any n c k sa xs w hs hk
  rwa [hR.out] at this

end Go.Proofs.Qxb6600070a
