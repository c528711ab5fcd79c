/-
  THE WALKS of the two bounds (seat b6600070a).
-/
import Derived.Test.Qxb6600070aTells
namespace Go.Proofs.Qxb6600070a
open Go.RowKit
set_option linter.unusedVariables false

theorem bytes2_yes (sa sb : Option Addr) (na ca nb cb : Nat) (w : World) (h : na + nb ≤ 1048576) :
    Calls Try.prog 9 #[.slice sa na ca, .slice sb nb cb] w fun e w' => e = .returned (.bool true) ∧ w' = w := by
  go_enter Try.func9, Try.ntmps9
  go_wp2
  go_ret
  exact ⟨rfl, rfl⟩

theorem bytes2_no (sa sb : Option Addr) (na ca nb cb : Nat) (w : World) (ha : na ≤ maxLen) (hb : nb ≤ maxLen) (h : 1048576 < na + nb) :
    Calls Try.prog 9 #[.slice sa na ca, .slice sb nb cb] w fun e w' => e = .returned (.bool false) ∧ w' = w := by
  unfold maxLen at ha hb
  by_cases h1 : 1048576 < na
  · go_enter Try.func9, Try.ntmps9
    go_wp2
    go_ret
    exact ⟨rfl, rfl⟩
  by_cases h2 : 1048576 < nb
  · go_enter Try.func9, Try.ntmps9
    go_wp2
    go_ret
    exact ⟨rfl, rfl⟩
  · go_enter Try.func9, Try.ntmps9
    go_wp2
    go_ret
    exact ⟨rfl, rfl⟩

theorem bytes3_yes (sa sb sc : Option Addr) (na ca nb cb nc cc : Nat) (w : World) (h : na + nb + nc ≤ 1048576) :
    Calls Try.prog 12 #[.slice sa na ca, .slice sb nb cb, .slice sc nc cc] w fun e w' => e = .returned (.bool true) ∧ w' = w := by
  go_enter Try.func12, Try.ntmps12
  go_wp2
  go_ret
  exact ⟨rfl, rfl⟩

theorem bytes3_no (sa sb sc : Option Addr) (na ca nb cb nc cc : Nat) (w : World) (ha : na ≤ maxLen) (hb : nb ≤ maxLen) (hc : nc ≤ maxLen) (h : 1048576 < na + nb + nc) :
    Calls Try.prog 12 #[.slice sa na ca, .slice sb nb cb, .slice sc nc cc] w fun e w' => e = .returned (.bool false) ∧ w' = w := by
  unfold maxLen at ha hb hc
  by_cases h1 : 1048576 < na
  · go_enter Try.func12, Try.ntmps12
    go_wp2
    go_ret
    exact ⟨rfl, rfl⟩
  by_cases h2 : 1048576 < nb
  · go_enter Try.func12, Try.ntmps12
    go_wp2
    go_ret
    exact ⟨rfl, rfl⟩
  by_cases h3 : 1048576 < na + nb
  · go_enter Try.func12, Try.ntmps12
    go_wp2
    go_ret
    exact ⟨rfl, rfl⟩
  by_cases h4 : 1048576 < nc
  · go_enter Try.func12, Try.ntmps12
    go_wp2
    go_ret
    exact ⟨rfl, rfl⟩
  · go_enter Try.func12, Try.ntmps12
    go_wp2
    go_ret
    exact ⟨rfl, rfl⟩

end Go.Proofs.Qxb6600070a
