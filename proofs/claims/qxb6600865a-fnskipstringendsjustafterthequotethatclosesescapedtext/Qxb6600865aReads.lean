/-
  WHAT THE WALKS OF SEAT b6600865a SHARE: a text behind a slice (Src), the parser's block (PInv), bytes.IndexByte at a quote.
-/
import Derived.Test.Qxb6600865aProg
import Derived.Test.Qxb6600865aPlain
import Derived.WalkKit
import Derived.WalkSpells
import Derived.WalkLawsBesides
import Derived.Lib.BytesEntry
import Derived.Lib.Walk
import Derived.Deep.QuietTactic
import Derived.BigQuiet
import Derived.Deep.LoopGhost
namespace Go.Proofs.Qxb6600865a
open Go.RowKit
set_option linter.unusedVariables false

theorem ret_bool {a b : Bool} (h : a = b) : Ending.returned (.bool a) = .returned (.bool b) := by rw [h]

/-- bytes.IndexByte, at a quote -/
theorem indexByte_any (b o n c : Nat) (xs : List Int) (w : World) (hx : xs.length = n) (hr : ∀ z ∈ xs, 0 ≤ z ∧ z ≤ 255) (hc : ∀ i, i < n → w.cell? ⟨b, o + i, none⟩ = some (.int .u8 (xs.getD i 0))) :
    Calls Try.prog 36 #[.slice (some ⟨b, o, none⟩) n c, .int .u8 34] w fun e w' => e = .returned (.int .i64 (Pl.ix xs)) ∧ w' = w := by
  have H : Hid (∀ i, i < n → w.cell? ⟨b, o + i, none⟩ = some (.int .u8 (xs.getD i 0))) := hc
  clear hc
  go_enter Try.func36, Try.ntmps36
  go_wp2
  rw [run_callFunc_extern Try.func41 (by kernel_rfl) (by kernel_rfl) (by kernel_rfl) (e := Extern.BytealgIndexByte.indexByte) (by kernel_rfl), Lib.run_indexByteSlice w b o n c xs hx H.out 34, Pl.ix_eq xs hr]
  simp only [Result.andThen]
  rw [Oper.upon_value]
  go_wp2
  go_ret
  exact ⟨rfl, rfl⟩

theorem hid {p : Prop} (h : p) : Hid p := h

/-- A text of bytes that a slice leads to, in a block below B (where there is a byte). -/
structure Src (B : Nat) (w : World) (sa : Option Addr) (n c : Nat) (xs : List Int) : Prop where
  len : xs.length = n
  small : n ≤ 4194304
  byte : ∀ z ∈ xs, 0 ≤ z ∧ z ≤ 255
  here : n = 0 ∨ ∃ b o, sa = some ⟨b, o, none⟩ ∧ b < B ∧ n ≤ c ∧ ∀ i, i < n → w.cell? ⟨b, o + i, none⟩ = some (.int .u8 (xs[i]?.getD 0))

theorem Src.below {B : Nat} {w w' : World} {sa : Option Addr} {n c : Nat} {xs : List Int} (h : Src B w sa n c xs) (hb : Below B w w') : Src B w' sa n c xs :=
  ⟨h.len, h.small, h.byte, by
    rcases h.here with h0 | ⟨b, o, e, hlt, hnc, hc⟩
    · exact .inl h0
    · exact .inr ⟨b, o, e, hlt, hnc, fun i hi => (hb.cell (p := ⟨b, o + i, none⟩) hlt).trans (hc i hi)⟩⟩

theorem Src.mono {B B' : Nat} {w : World} {sa : Option Addr} {n c : Nat} {xs : List Int} (h : Src B w sa n c xs) (hb : B ≤ B') : Src B' w sa n c xs :=
  ⟨h.len, h.small, h.byte, by
    rcases h.here with h0 | ⟨b, o, e, hlt, hnc, hc⟩
    · exact .inl h0
    · exact .inr ⟨b, o, e, Nat.lt_of_lt_of_le hlt hb, hnc, hc⟩⟩

/-- What the parser's block holds, and what it reads from. -/
structure PInv (w0 : World) (pb : Nat) (sa : Option Addr) (n c : Nat) (xs : List Int) (pos : Int) (w : World) : Prop where
  src : w.cell? ⟨pb, 0, none⟩ = some (.slice sa n c)
  pos : w.cell? ⟨pb, 1, none⟩ = some (.int .i64 pos)
  free : w.frozen? ⟨pb, 1, none⟩ = false
  size : pb < w.heap.size
  below : Below pb w0 w
  txt : Src pb w sa n c xs

section
variable {w0 : World} {pb : Nat} {sa : Option Addr} {n c : Nat} {xs : List Int} {pos : Int} {w : World}

theorem PInv.drewN (h : PInv w0 pb sa n c xs pos w) (k : Nat) : PInv w0 pb sa n c xs pos (w.drewN k) :=
  ⟨h.src, h.pos, h.free, h.size, below_drewN h.below k, h.txt.below (below_drewN (Below.refl _ _) k)⟩

theorem PInv.store (h : PInv w0 pb sa n c xs pos w) (q : Int) : PInv w0 pb sa n c xs q (w.setCell ⟨pb, 1, none⟩ (.int .i64 q)) :=
  ⟨by rw [World.cell?_setCell_other w ⟨pb, 1, none⟩ ⟨pb, 0, none⟩ _ (by simp)]; exact h.src, World.cell?_setCell_same w ⟨pb, 1, none⟩ _ h.pos, by rw [World.frozen?_setCell]; exact h.free, by simpa [World.setCell] using h.size, h.below.setCell (Nat.le_refl _) _, h.txt.below ((Below.refl pb w).setCell (p := ⟨pb, 1, none⟩) (Nat.le_refl pb) _)⟩
end

end Go.Proofs.Qxb6600865a
