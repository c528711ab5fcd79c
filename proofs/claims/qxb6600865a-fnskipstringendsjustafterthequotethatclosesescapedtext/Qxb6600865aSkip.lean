/-
  THE WALKS of skipString and ZZskipString (seat b6600865a).
-/
import Derived.Test.Qxb6600865aReads
namespace Go.Proofs.Qxb6600865a
open Go.RowKit
set_option linter.unusedVariables false

set_option maxHeartbeats 1000000 in
theorem skip_any (pb n c q : Nat) (sa : Option Addr) (xs : List Int) (w w0 : World) (hI : PInv w0 pb sa n c xs 0 w) (hg : Pl.Good xs q) (h1q : 1 ≤ q) (hqn : q < n) :
    Calls Try.prog 30 #[.pointer (some ⟨pb, 0, none⟩)] w fun e w' => e = .returned (.bool true) ∧ PInv w0 pb sa n c xs ((q : Int) + 1) w' := by
  obtain ⟨hx, hn, hr, hh⟩ := hI.txt
  rcases hh with h0 | ⟨b, o, rfl, hlt, hnc, hc⟩
  · omega
  have HI := hid hI
  have HG := hid hg
  have HX := hid hx
  have HR := hid hr
  have HC := hid hc
  have p1 := hI.pos
  have p2 := hI.src
  have p3 := hI.free
  clear hI hg hx hr hc hlt
  go_enter Try.func30, Try.ntmps30
  go_wp2_with fail
  go_loop [3] (fun i => ∃ k : Nat, 1 ≤ k ∧ k ≤ q ∧ i = .int .i64 k) (fun i => q + 1 - (intOf i).toNat)
  case atStart => exact ⟨1, Nat.le_refl _, h1q, by go_num⟩
  case round =>
    obtain ⟨k, h1k, hkq, rfl⟩ := hrel
    obtain ⟨m, hm1, hm2, hm3⟩ := Pl.ix_found (xs.drop k) (q - k) (by rw [List.getElem?_drop, show k + (q - k) = q from by omega]; exact HG.out.1)
    have hK := indexByte_any b (o + k) (n - k) (c - k) (xs.drop k) w (by simp; have := HX.out; omega) (fun z hz => HR.out z (List.mem_of_mem_drop hz)) (fun i hi => by
      rw [Nat.add_assoc, HC.out (k + i) (by omega)]
      simp)
    rw [hm1] at hK
    have HK := hid hK
    have H34 : Hid (xs[k + m]?.getD 0 = 34) := by
      show xs[k + m]?.getD 0 = 34
      rwa [List.getElem?_drop] at hm3
    clear hK hm1 hm3
    have hj : k + m ≤ q := by omega
    clear hm2
    have hkn : k < n := by omega
    go_wp2_with fail
    refine HK.out.mono ?_
    rintro e w' ⟨rfl, hw⟩
    subst w'
    go_wp2_with fail
    go_loop [5] (fun t => ∃ t' : Nat, t' + 1 ≤ k + m ∧ t = .int .i64 (t' + 1 : Nat) ∧ Hid (∀ i, t' + 1 ≤ i → i < k + m → xs[i]?.getD 0 = 92)) (fun t => (intOf t).toNat)
    case atStart => exact ⟨k + m - 1, by omega, by go_num, fun i h1 h2 => by omega⟩
    case round =>
      obtain ⟨t, ht, rfl, HT⟩ := hrel
      by_cases ht0 : t = 0
      · have HB : Hid (t + 1 = 1 ∨ xs[t + 1 - 1]?.getD 0 ≠ 92) := .inl (by omega)
        have hd : decide ((1 : Int) < (t : Int) + 1) = false := by simp; omega
        have hpar := HG.out.2 (k + m) (t + 1) (by omega) ht hj H34.out HT.out HB.out
        by_cases hq : k + m = q
        · have he := hpar.1 hq
          have hb : (((k : Int) + (m : Int) - ((t : Int) + 1)) % 2 == 0) = true := beq_iff_eq.2 (by omega)
          have HE : Hid ((k : Int) + (m : Int) + 1 = (q : Int) + 1) := by
            show (k : Int) + (m : Int) + 1 = (q : Int) + 1
            omega
          clear hpar he hq
          go_wp2_with fail
          go_ret
          refine ⟨rfl, ?_⟩
          have hs := HI.out.store ((k : Int) + (m : Int) + 1)
          rw [HE.out] at hs ⊢
          exact hs
        · have he := hpar.2 (by omega)
          have hb : (((k : Int) + (m : Int) - ((t : Int) + 1)) % 2 == 0) = false := beq_eq_false_iff_ne.2 (by omega)
          clear hpar he
          go_wp2_with fail
          go_round
          case rel => exact ⟨k + m + 1, by omega, by omega, by go_num⟩
          case measure => simp [intOf]; omega
      · have hcell := HC.out t (by omega)
        obtain ⟨v, hv⟩ : ∃ v, xs[t]?.getD 0 = v := ⟨_, rfl⟩
        rw [hv] at hcell
        have HV := hid hv
        clear hv
        have hd : decide ((1 : Int) < (t : Int) + 1) = true := by simp; omega
        by_cases h92 : v = 92
        · have HN : Hid (∀ i, t - 1 + 1 ≤ i → i < k + m → xs[i]?.getD 0 = 92) := fun i h1 h2 => by
            by_cases e : i = t
            · subst e; rw [HV.out]; exact h92
            · exact HT.out i (by omega) h2
          subst h92
          go_wp2_with fail
          go_round
          case rel => exact ⟨t - 1, by omega, by go_num, HN⟩
          case measure => simp [intOf]
        · have HB : Hid (t + 1 = 1 ∨ xs[t + 1 - 1]?.getD 0 ≠ 92) := .inr (by rw [show t + 1 - 1 = t from by omega, HV.out]; exact h92)
          have b92 : (v == 92) = false := by simpa using h92
          clear h92
          have hpar := HG.out.2 (k + m) (t + 1) (by omega) ht hj H34.out HT.out HB.out
          by_cases hq : k + m = q
          · have he := hpar.1 hq
            have hb : (((k : Int) + (m : Int) - ((t : Int) + 1)) % 2 == 0) = true := beq_iff_eq.2 (by omega)
            have HE : Hid ((k : Int) + (m : Int) + 1 = (q : Int) + 1) := by
              show (k : Int) + (m : Int) + 1 = (q : Int) + 1
              omega
            clear hpar he hq
            go_wp2_with fail
            go_ret
            refine ⟨rfl, ?_⟩
            have hs := HI.out.store ((k : Int) + (m : Int) + 1)
            rw [HE.out] at hs ⊢
            exact hs
          · have he := hpar.2 (by omega)
            have hb : (((k : Int) + (m : Int) - ((t : Int) + 1)) % 2 == 0) = false := beq_eq_false_iff_ne.2 (by omega)
            clear hpar he
            go_wp2_with fail
            go_round
            case rel => exact ⟨k + m + 1, by omega, by omega, by go_num⟩
            case measure => simp [intOf]; omega

theorem PInv.start {w : World} {sa : Option Addr} {n c : Nat} {xs : List Int} (hs : Src w.heap.size w sa n c xs) (k : Int) (cs : Array Value) (t : TypeId) (h0 : cs[0]? = some (.slice sa n c)) (h1 : cs[1]? = some (.int .i64 k)) :
    PInv w w.heap.size sa n c xs k (w.alloc (.cells cs t)) :=
  ⟨by rw [World.cell?_alloc_new]; exact h0, by rw [World.cell?_alloc_new]; exact h1, by simp, by simp, (Below.refl _ _).alloc (Nat.le_refl _) _, hs.below ((Below.refl _ _).alloc (Nat.le_refl _) _)⟩

theorem zzskip_any (n c q : Nat) (sa : Option Addr) (xs : List Int) (w : World) (hs : Src w.heap.size w sa n c xs) (hg : Pl.Good xs q) (h1q : 1 ≤ q) (hqn : q < n) :
    Calls Try.prog 17 #[.slice sa n c, .int .i64 0] w fun e w' => e = .returned (.tuple #[.bool true, .int .i64 ((q : Int) + 1)]) ∧ Below w.heap.size w w' := by
  have HS := hid hs
  have HG := hid hg
  clear hs hg
  go_enter Try.func17, Try.ntmps17
  go_wp2_with fail
  refine (skip_any w.heap.size n c q sa xs _ w (PInv.start HS.out 0 _ 44 rfl rfl) HG.out h1q hqn).mono ?_
  rintro e w' ⟨rfl, hP⟩
  have p1 := hP.pos
  have HB := hid hP.below
  clear hP
  go_wp2_with fail
  go_quiet (fail)
  go_wp2_with fail
  go_ret2
  exact ⟨rfl, below_drewN HB.out nq⟩

end Go.Proofs.Qxb6600865a
