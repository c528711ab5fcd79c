/-
  THE WALK of ZZSkipBlankLines (seat b6600070a).
-/
import Derived.Test.Qxb6600070aLines
namespace Go.Proofs.Qxb6600070a
open Go.RowKit
set_option linter.unusedVariables false

theorem PInv.start {w : World} {sa : Option Addr} {n c : Nat} {xs : List Int} (hs : Src w.heap.size w sa n c xs) (k : Int) (cs : Array Value) (t : TypeId) (h0 : cs[0]? = some (.slice sa n c)) (h1 : cs[1]? = some (.int .i64 k)) :
    PInv w w.heap.size sa n c xs k (w.alloc (.cells cs t)) :=
  ⟨by rw [World.cell?_alloc_new]; exact h0, by rw [World.cell?_alloc_new]; exact h1, by simp, by simp, (Below.refl _ _).alloc (Nat.le_refl _) _, hs.below ((Below.refl _ _).alloc (Nat.le_refl _) _)⟩

theorem zzskip_any (n c k : Nat) (sa : Option Addr) (xs : List Int) (w : World) (hs : Src w.heap.size w sa n c xs) (hk : k ≤ n) :
    Calls Try.prog 8 #[.slice sa n c, .int .i64 k] w fun e w' => e = .returned (.int .i64 (Pl.scan false k k (xs.drop k) : Nat)) ∧ Below w.heap.size w w' := by
  have HS := hid hs
  clear hs
  generalize hR : Pl.scan false k k (xs.drop k) = R
  have HR := hid hR
  clear hR
  go_enter Try.func8, Try.ntmps8
  go_wp2_with fail
  refine (skipBlank_any w.heap.size n c k sa xs _ w (PInv.start HS.out k _ 36 rfl rfl) hk).mono ?_
  rintro e w' ⟨rfl, hP⟩
  rw [HR.out] at hP
  have h1 := hP.pos
  have HB := hid hP.below
  clear hP
  go_wp2_with fail
  go_ret
  exact ⟨rfl, HB.out⟩

end Go.Proofs.Qxb6600070a
