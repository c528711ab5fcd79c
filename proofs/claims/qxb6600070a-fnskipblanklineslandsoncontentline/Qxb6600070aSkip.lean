/-
  THE WALKS of skipToLineEnd, ch, skipBlankLines, ZZSkipBlankLines (seat b6600070a).
-/
import Derived.Test.Qxb6600070aReads
import Derived.Deep.LoopGhost
namespace Go.Proofs.Qxb6600070a
open Go.RowKit
set_option linter.unusedVariables false

/-- ch -/
theorem ch_any (pb n c j : Nat) (sa : Option Addr) (xs : List Int) (w w0 : World) (hI : PInv w0 pb sa n c xs j w) :
    Calls Try.prog 18 #[.pointer (some ⟨pb, 0, none⟩)] w fun e w' => e = .returned (.int .u8 (xs[j]?.getD 0)) ∧ w' = w := by
  have h1 := hI.pos
  have h2 := hI.src
  have h3 := hI.txt
  go_enter Try.func18, Try.ntmps18
  go_wp2_with (go_at_call 16; refine (at_any pb n c j pb sa xs _ h2 h3).mono ?_; rintro e w' ⟨rfl, rfl⟩)
  go_ret
  exact ⟨rfl, rfl⟩

/-- skipToLineEnd, inside the text -/
theorem toEnd_any (pb n c j : Nat) (sa : Option Addr) (xs : List Int) (w w0 : World) (hI : PInv w0 pb sa n c xs j w) (hj : j < n) :
    Calls Try.prog 17 #[.pointer (some ⟨pb, 0, none⟩)] w fun e w' => e = .returned (.tuple #[]) ∧ PInv w0 pb sa n c xs (if Pl.ix (xs.drop j) = -1 then (n : Int) else j + Pl.ix (xs.drop j)) w' := by
  obtain ⟨hx, hn, hr, hh⟩ := hI.txt
  rcases hh with h0 | ⟨b, o, rfl, hlt, hnc, hc⟩
  · omega
  have hge := Pl.ix_ge (xs.drop j)
  have hlt := Pl.ix_lt (xs.drop j)
  rw [List.length_drop] at hlt
  have h1 := hI.pos
  have h2 := hI.src
  have h3 := hI.free
  have hrd : ∀ z ∈ xs.drop j, 0 ≤ z ∧ z ≤ 255 := fun z hz => hr z (List.mem_of_mem_drop hz)
  have hcd : ∀ i, i < n - j → w.cell? ⟨b, o + j + i, none⟩ = some (.int .u8 ((xs.drop j).getD i 0)) := fun i hi => by
    rw [Nat.add_assoc, hc (j + i) (by omega)]
    simp
  have hK := fun nq => indexByte_any b (o + j) (n - j) (c - j) (xs.drop j) (w.drewN nq) (by simp; omega) hrd hcd
  have HI : Hid (PInv w0 pb (some ⟨b, o, none⟩) n c xs j w) := hI
  generalize Pl.ix (xs.drop j) = m at *
  have HK := hid hK
  clear hK hcd hrd hc hr hI
  by_cases hm : m = -1
  · subst hm
    go_enter Try.func17, Try.ntmps17
    go_wp2
    go_quiet ((go_at_call 19; exact Calls.quiet_of_same (HK.out _)))
    go_wp2
    go_end0
    refine ⟨rfl, ?_⟩
    exact (HI.out.store _).drewN nq
  · have hm0 : 0 ≤ m := by omega
    rw [if_neg hm]
    clear hm
    go_enter Try.func17, Try.ntmps17
    go_wp2
    go_quiet ((go_at_call 19; exact Calls.quiet_of_same (HK.out _)))
    go_wp2
    go_end0
    refine ⟨rfl, ?_⟩
    exact (HI.out.store _).drewN nq

/-- at, its byte by a name -/
theorem at_v (pb n c j : Nat) (sa : Option Addr) (xs : List Int) (pos v : Int) (w0 w : World) (hv : Hid (xs[j]?.getD 0 = v)) (hI : PInv w0 pb sa n c xs pos w) :
    Calls Try.prog 16 #[.pointer (some ⟨pb, 0, none⟩), .int .i64 j] w fun e w' => e = .returned (.int .u8 v) ∧ w' = w := by
  have := at_any pb n c j pb sa xs w hI.src hI.txt
  rwa [hv.out] at this

theorem ch_v (pb n c j : Nat) (sa : Option Addr) (xs : List Int) (v : Int) (w0 w : World) (hv : Hid (xs[j]?.getD 0 = v)) (hI : PInv w0 pb sa n c xs j w) :
    Calls Try.prog 18 #[.pointer (some ⟨pb, 0, none⟩)] w fun e w' => e = .returned (.int .u8 v) ∧ w' = w := by
  have := ch_any pb n c j sa xs w w0 hI
  rwa [hv.out] at this

theorem toEnd_found (pb n c j m : Nat) (sa : Option Addr) (xs : List Int) (w w0 : World) (hI : PInv w0 pb sa n c xs j w) (hj : j < n) (hm : Hid (Pl.ix (xs.drop j) = (m : Int))) :
    Calls Try.prog 17 #[.pointer (some ⟨pb, 0, none⟩)] w fun e w' => e = .returned (.tuple #[]) ∧ PInv w0 pb sa n c xs ((j + m : Nat) : Int) w' := by
  have := toEnd_any pb n c j sa xs w w0 hI hj
  rw [hm.out, if_neg (by omega)] at this
  exact this

theorem toEnd_lost (pb n c j : Nat) (sa : Option Addr) (xs : List Int) (w w0 : World) (hI : PInv w0 pb sa n c xs j w) (hj : j < n) (hm : Hid (Pl.ix (xs.drop j) = -1)) :
    Calls Try.prog 17 #[.pointer (some ⟨pb, 0, none⟩)] w fun e w' => e = .returned (.tuple #[]) ∧ PInv w0 pb sa n c xs (n : Int) w' := by
  have := toEnd_any pb n c j sa xs w w0 hI hj
  rw [hm.out, if_pos rfl] at this
  exact this

end Go.Proofs.Qxb6600070a
