/-
  THE WALK of schemeByScan (seat b6600820a).
-/
import Derived.Test.Qxb6600820aSmall
namespace Go.Proofs.Qxb6600820a
open Go.RowKit
set_option linter.unusedVariables false

/-- The slashes behind place j, as far as place e. -/
def Sl (s : ByteArray) (j e : Nat) : Prop := j + 1 ≤ e ∧ e ≤ s.size ∧ ∀ i (h : i < s.size), j + 1 ≤ i → i < e → s[i] = 47

theorem Sl.start {s : ByteArray} {j : Nat} (h : j < s.size) : Sl s j (j + 1) := ⟨Nat.le_refl _, h, fun i _ h1 h2 => by omega⟩

theorem Sl.next {s : ByteArray} {j e : Nat} (h : Sl s j e) (he : e < s.size) (hc : s[e] = 47) : Sl s j (e + 1) := by
  obtain ⟨h1, h2, h3⟩ := h
  refine ⟨by omega, he, fun i hi h4 h5 => ?_⟩
  by_cases e' : i = e
  · subst e'; exact hc
  · exact h3 i hi h4 (by omega)

theorem Sl.ends {s : ByteArray} {j e : Nat} (h : Sl s j e) (hn : ∀ h : e < s.size, s[e] ≠ 47) : Pl.Ends s j e := ⟨h.1, h.2.1, h.2.2, hn⟩

theorem byte_ne (c d : UInt8) (h : c ≠ d) : ((c.toNat : Int) == (d.toNat : Int)) = false := by
  rw [beq_eq_false_iff_ne]
  intro e
  apply h
  apply UInt8.toNat_inj.1
  omega

theorem byte_bne (c d : UInt8) (h : c ≠ d) : ((c.toNat : Int) != (d.toNat : Int)) = true := by
  rw [bne_iff_ne]
  intro e
  apply h
  apply UInt8.toNat_inj.1
  omega

set_option maxHeartbeats 1000000 in
theorem scan_any (s : ByteArray) (w : World) (hs : s.size ≤ 1048576) :
    Calls Try.prog 9 #[.string s] w fun e w' => ∃ t, e = .returned (.string t) ∧ Pl.Res s t ∧ w' = w := by
  by_cases h0 : 0 < s.size
  · have b0 : ((s.size : Int) == 0) = false := beq_eq_false_iff_ne.2 (by omega)
    by_cases hl : Pl.letter s[0] = true
    · have HL := hid hl
      clear hl
      go_enter Try.func9, Try.ntmps9
      go_wp2_with fail
      refine (lawIsLetter_v _ true _ HL).mono ?_
      rintro e w' ⟨rfl, hw⟩
      subst w'
      go_wp2_with fail
      go_loop [3] (fun i => ∃ k : Nat, 1 ≤ k ∧ k ≤ s.size ∧ i = .int .i64 k ∧ Hid (Pl.Run s k)) (fun i => s.size - (intOf i).toNat)
      case atStart => exact ⟨1, Nat.le_refl _, h0, rfl, Pl.run_one s⟩
      case round =>
        obtain ⟨k, h1, hk, rfl, HR⟩ := hrel
        by_cases hlt : k < s.size
        · by_cases ht : Pl.tail s[k] = true
          · have HN := hid (Pl.run_succ HR.out hlt ht)
            have HT := hid ht
            clear ht
            go_wp2_with fail
            refine (lawIsTail_v _ true _ HT).mono ?_
            rintro e w' ⟨rfl, hw⟩
            subst w'
            go_wp2_with fail
            go_round
            case rel => exact ⟨k + 1, by omega, by omega, by go_num, HN⟩
            case measure => simp [intOf]; omega
          · have ht' : Pl.tail s[k] = false := by simpa using ht
            have HT := hid ht'
            clear ht ht'
            have hd : decide ((s.size : Int) ≤ (k : Int)) = false := by simp; omega
            by_cases hc : s[k] = 58
            · have HC := hid (Pl.yes HR.out h1 hlt HL.out hc)
              have hb : ((s[k].toNat : Int) != 58) = false := by rw [hc]; rfl
              clear hc
              go_wp2_with fail
              refine (lawIsTail_v _ false _ HT).mono ?_
              rintro e w' ⟨rfl, hw⟩
              subst w'
              go_wp2_with fail
              go_loop [3] (fun i => ∃ e : Nat, e ≤ s.size ∧ i = .int .i64 e ∧ Hid (Sl s k e)) (fun i => s.size - (intOf i).toNat)
              case atStart => exact ⟨k + 1, hlt, by go_num, Sl.start hlt⟩
              case round =>
                obtain ⟨e, he, rfl, HE⟩ := hrel
                clear hb hd
                by_cases hlt : e < s.size
                · by_cases h47 : s[e] = 47
                  · have HN := hid (HE.out.next hlt h47)
                    have hb : ((s[e].toNat : Int) == 47) = true := by rw [h47]; rfl
                    clear h47
                    go_wp2_with fail
                    go_round
                    case rel => exact ⟨e + 1, by omega, by go_num, HN⟩
                    case measure => simp [intOf]; omega
                  · have HF := hid (HE.out.ends (fun _ => h47))
                    have hb : ((s[e].toNat : Int) == 47) = false := byte_ne s[e] 47 h47
                    clear h47
                    go_wp2_with fail
                    go_ret
                    exact ⟨_, rfl, .inl ⟨k, e, HC.out, HF.out, rfl⟩, rfl⟩
                · have HF := hid (HE.out.ends (fun h => absurd h hlt))
                  go_wp2_with fail
                  go_ret
                  exact ⟨_, rfl, .inl ⟨k, e, HC.out, HF.out, rfl⟩, rfl⟩
            · have HC := hid (Pl.no_tail HR.out h1 hlt HT.out hc)
              have hb : ((s[k].toNat : Int) != 58) = true := byte_bne s[k] 58 hc
              clear hc
              go_wp2_with fail
              refine (lawIsTail_v _ false _ HT).mono ?_
              rintro e w' ⟨rfl, hw⟩
              subst w'
              go_wp2_with fail
              go_ret
              exact ⟨_, rfl, .inr ⟨HC.out, rfl⟩, rfl⟩
        · obtain rfl : k = s.size := by omega
          have HC := hid (Pl.no_end HR.out)
          go_wp2_with fail
          go_ret
          exact ⟨_, rfl, .inr ⟨HC.out, rfl⟩, rfl⟩
    · have hl' : Pl.letter s[0] = false := by simpa using hl
      have HC := hid (Pl.no_letter h0 hl')
      have HL := hid hl'
      clear hl hl'
      go_enter Try.func9, Try.ntmps9
      go_wp2_with fail
      refine (lawIsLetter_v _ false _ HL).mono ?_
      rintro e w' ⟨rfl, hw⟩
      subst w'
      go_wp2_with fail
      go_ret
      exact ⟨_, rfl, .inr ⟨HC.out, rfl⟩, rfl⟩
  · have HC := hid (Pl.no_byte h0)
    have b0 : ((s.size : Int) == 0) = true := beq_iff_eq.2 (by omega)
    clear h0
    go_enter Try.func9, Try.ntmps9
    go_wp2_with fail
    go_ret
    exact ⟨_, rfl, .inr ⟨HC.out, rfl⟩, rfl⟩

end Go.Proofs.Qxb6600820a
