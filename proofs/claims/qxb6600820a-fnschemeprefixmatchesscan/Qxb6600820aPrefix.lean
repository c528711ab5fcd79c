/-
  THE WALK of schemePrefix and ZZschemePrefix (seat b6600820a).
-/
import Derived.Test.Qxb6600820aScan
import Derived.Test.Qxb6600820aShelf
import Derived.Lib.IndexLaws
namespace Go.Proofs.Qxb6600820a
open Go.RowKit
set_option linter.unusedVariables false

theorem at_list (s : ByteArray) (i : Nat) (h : i < s.size) : s.data.toList[i]? = some s[i] := by
  rw [List.getElem?_eq_getElem (by simpa using h)]; rfl

theorem none_colon {s : ByteArray} (h : Lib.indexByte s.data.toList 58 = -1) (j : Nat) : ¬ Pl.Colon s j := by
  rintro ⟨b1, b2, b3, b4, b5⟩
  exact Lib.indexByte_none h j (by rw [at_list s j b1, b5])

theorem first_colon {s : ByteArray} {o : Nat} (h : Lib.indexByte s.data.toList 58 = (o : Int)) : ∃ ho : o < s.size, s[o] = 58 ∧ ∀ i (hi : i < s.size), i < o → s[i] ≠ 58 := by
  obtain ⟨h1, h2⟩ := Lib.indexByte_some h
  have ho : o < s.size := by
    have := (List.getElem?_eq_some_iff.1 h1).1
    simpa using this
  rw [at_list s o ho] at h1
  refine ⟨ho, Option.some.inj h1, fun i hi hlt e => h2 i hlt (by rw [at_list s i hi, e])⟩

/-- Where the first ':' is not a scheme's, there is none. -/
theorem only_first {s : ByteArray} {o : Nat} (ho : o < s.size) (h1 : s[o] = 58) (h2 : ∀ i (hi : i < s.size), i < o → s[i] ≠ 58) (hn : ¬ Pl.Colon s o) (j : Nat) : ¬ Pl.Colon s j := by
  rintro ⟨b1, b2, b3, b4, b5⟩
  rcases Nat.lt_trichotomy j o with h' | h' | h'
  · exact h2 j b1 h' b5
  · subst h'; exact hn ⟨b1, b2, b3, b4, b5⟩
  · by_cases h0 : 1 ≤ o
    · have := b4 o h' h0
      rw [h1, Pl.tail_colon] at this
      cases this
    · obtain rfl : o = 0 := by omega
      rw [h1, Pl.letter_colon] at b3
      cases b3

theorem not_first {s : ByteArray} {o k : Nat} (h1 : 1 ≤ k) (hk : k < o) (hs : k < s.size) (ht : Pl.tail s[k] = false) : ¬ Pl.Colon s o := by
  rintro ⟨b1, b2, b3, b4, b5⟩
  have := b4 k hk h1
  rw [ht] at this
  cases this

theorem prefix_none (s : ByteArray) (m : Int) (w : World) (hm : m ≤ 0) (hI : Hid (Lib.indexByte s.data.toList 58 = m)) (hC : Hid (∀ j, ¬ Pl.Colon s j)) :
    Calls Try.prog 16 #[.string s] w fun e w' => ∃ t, e = .returned (.string t) ∧ Pl.Res s t ∧ w' = w := by
  have hI2 := Try.strings_IndexByte s 58 w
  have e58 : (58 : Int).toNat.toUInt8 = (58 : UInt8) := rfl
  rw [e58, hI.out] at hI2
  have HI := hid hI2
  have hd : decide ((0 : Int) < m) = false := by simp; omega
  clear hI2 hI e58
  go_enter Try.func16, Try.ntmps16
  go_wp2_with fail
  refine HI.out.mono ?_
  rintro e w' ⟨rfl, hw⟩
  subst w'
  go_wp2_with fail
  refine wp_loop_rounds 1 ?_
  rw [rounds_succ]
  go_wp2_with fail
  go_ret
  exact ⟨_, rfl, .inr ⟨hC.out, rfl⟩, rfl⟩

theorem tail_of (c : UInt8) : Pl.tail c = (Pl.alnum c || ((c.toNat : Int) == 43) || ((c.toNat : Int) == 45) || ((c.toNat : Int) == 46)) := by
  unfold Pl.tail
  cases Pl.alnum c with
  | true => rfl
  | false =>
    rw [Bool.eq_iff_iff]
    simp only [Bool.or_eq_true, beq_iff_eq, Bool.false_eq_true, false_or]
    omega

/-- What the first loop knows: 'ok', and how far. -/
def Fine (s : ByteArray) (o k : Nat) (b : Bool) : Prop := (b = true → Pl.Run s k) ∧ (b = false → ¬ Pl.Colon s o)

set_option maxHeartbeats 1000000 in
theorem prefix_some (s : ByteArray) (o : Nat) (w : World) (hs : s.size ≤ 1048576) (h0 : 0 < o) (hI : Hid (Lib.indexByte s.data.toList 58 = (o : Int))) :
    Calls Try.prog 16 #[.string s] w fun e w' => ∃ t, e = .returned (.string t) ∧ Pl.Res s t ∧ w' = w := by
  obtain ⟨ho, h1, h2⟩ := first_colon hI.out
  have HO := hid (only_first ho h1 h2)
  have H58 := hid h1
  have hI2 := Try.strings_IndexByte s 58 w
  have e58 : (58 : Int).toNat.toUInt8 = (58 : UInt8) := rfl
  rw [e58, hI.out] at hI2
  have HI := hid hI2
  clear hI2 hI e58 h1 h2
  have hp : 0 < s.size := by omega
  by_cases hl : Pl.letter s[0] = true
  · have HL := hid hl
    clear hl
    go_enter Try.func16, Try.ntmps16
    go_wp2_with fail
    refine HI.out.mono ?_
    rintro e w' ⟨rfl, hw⟩
    subst w'
    go_wp2_with fail
    refine (isLetter_v _ true _ HL).mono ?_
    rintro e w' ⟨rfl, hw⟩
    subst w'
    go_wp2_with fail
    go_loop [4, 5] (fun ok i => ∃ (k : Nat) (b : Bool), 1 ≤ k ∧ k ≤ o ∧ i = .int .i64 k ∧ ok = .bool b ∧ Hid (Fine s o k b)) (fun _ i => o - (intOf i).toNat)
    case atStart => exact ⟨1, true, Nat.le_refl _, h0, rfl, rfl, ⟨fun _ => Pl.run_one s, fun h => by cases h⟩⟩
    case round =>
      obtain ⟨k, b, hk1, hk, rfl, rfl, HB⟩ := hrel
      cases b with
      | false =>
        have HC := hid (HO.out (HB.out.2 rfl))
        go_wp2_with fail
        go_ret
        exact ⟨_, rfl, .inr ⟨HC.out, rfl⟩, rfl⟩
      | true =>
        have HR := hid (HB.out.1 rfl)
        clear HB
        by_cases hlt : k < o
        · have hks : k < s.size := by omega
          have HT := hid (tail_of s[k])
          have HY : Hid (Pl.tail s[k] = true → Fine s o (k + 1) true) := fun h => ⟨fun _ => Pl.run_succ HR.out hks h, fun h => by cases h⟩
          have HZ : Hid (Pl.tail s[k] = false → Fine s o (k + 1) false) := fun h => ⟨(fun h => by cases h), fun _ => not_first hk1 hlt hks h⟩
          by_cases ha : Pl.alnum s[k] = true
          · have HN := hid (HY.out (by rw [HT.out, ha]; rfl))
            have HA := hid ha
            clear ha
            go_wp2_with fail
            refine (isAlnum_v _ true _ HA).mono ?_
            rintro e w' ⟨rfl, hw⟩
            subst w'
            go_wp2_with fail
            go_round
            case rel => exact ⟨k + 1, true, by omega, by omega, by go_num, rfl, HN⟩
            case measure => simp [intOf]; omega
          have ha' : Pl.alnum s[k] = false := by simpa using ha
          clear ha
          by_cases h43 : ((s[k].toNat : Int) == 43) = true
          · have HN := hid (HY.out (by rw [HT.out, ha', h43]; rfl))
            have HA := hid ha'
            clear ha'
            go_wp2_with fail
            refine (isAlnum_v _ false _ HA).mono ?_
            rintro e w' ⟨rfl, hw⟩
            subst w'
            go_wp2_with fail
            go_round
            case rel => exact ⟨k + 1, true, by omega, by omega, by go_num, rfl, HN⟩
            case measure => simp [intOf]; omega
          have h43' : ((s[k].toNat : Int) == 43) = false := by simpa using h43
          clear h43
          by_cases h45 : ((s[k].toNat : Int) == 45) = true
          · have HN := hid (HY.out (by rw [HT.out, ha', h43', h45]; rfl))
            have HA := hid ha'
            clear ha'
            go_wp2_with fail
            refine (isAlnum_v _ false _ HA).mono ?_
            rintro e w' ⟨rfl, hw⟩
            subst w'
            go_wp2_with fail
            go_round
            case rel => exact ⟨k + 1, true, by omega, by omega, by go_num, rfl, HN⟩
            case measure => simp [intOf]; omega
          have h45' : ((s[k].toNat : Int) == 45) = false := by simpa using h45
          clear h45
          by_cases h46 : ((s[k].toNat : Int) == 46) = true
          · have HN := hid (HY.out (by rw [HT.out, ha', h43', h45', h46]; rfl))
            have HA := hid ha'
            clear ha'
            go_wp2_with fail
            refine (isAlnum_v _ false _ HA).mono ?_
            rintro e w' ⟨rfl, hw⟩
            subst w'
            go_wp2_with fail
            go_round
            case rel => exact ⟨k + 1, true, by omega, by omega, by go_num, rfl, HN⟩
            case measure => simp [intOf]; omega
          have h46' : ((s[k].toNat : Int) == 46) = false := by simpa using h46
          clear h46
          have HN := hid (HZ.out (by rw [HT.out, ha', h43', h45', h46']; rfl))
          have HA := hid ha'
          clear ha'
          go_wp2_with fail
          refine (isAlnum_v _ false _ HA).mono ?_
          rintro e w' ⟨rfl, hw⟩
          subst w'
          go_wp2_with fail
          go_round
          case rel => exact ⟨k + 1, false, by omega, by omega, by go_num, rfl, HN⟩
          case measure => simp [intOf]; omega
        · obtain rfl : k = o := by omega
          have HC := hid (Pl.yes HR.out hk1 ho HL.out H58.out)
          go_wp2_with fail
          go_loop [6] (fun i => ∃ e : Nat, e ≤ s.size ∧ i = .int .i64 e ∧ Hid (Sl s k e)) (fun i => s.size - (intOf i).toNat)
          case atStart => exact ⟨k + 1, ho, by go_num, Sl.start ho⟩
          case round =>
            obtain ⟨e, he, rfl, HE⟩ := hrel
            by_cases hlt : e < s.size
            · by_cases h47 : s[e] = 47
              · have HN := hid (HE.out.next hlt h47)
                have hb : ((s[e].toNat : Int) == 47) = true := by rw [h47]; rfl
                clear h47
                go_wp2_with fail
                go_round
                case rel => exact ⟨e + 1, by omega, by go_num, HN⟩
                case measure => simp [intOf]; omega
              · have HF := hid (HE.out.ends (fun _ => h47))
                have hb : ((s[e].toNat : Int) == 47) = false := byte_ne s[e] 47 h47
                clear h47
                go_wp2_with fail
                go_ret
                exact ⟨_, rfl, .inl ⟨k, e, HC.out, HF.out, rfl⟩, rfl⟩
            · have HF := hid (HE.out.ends (fun h => absurd h hlt))
              go_wp2_with fail
              go_ret
              exact ⟨_, rfl, .inl ⟨k, e, HC.out, HF.out, rfl⟩, rfl⟩
  · have hl' : Pl.letter s[0] = false := by simpa using hl
    have HC := hid (Pl.no_letter hp hl')
    have HL := hid hl'
    clear hl hl'
    go_enter Try.func16, Try.ntmps16
    go_wp2_with fail
    refine HI.out.mono ?_
    rintro e w' ⟨rfl, hw⟩
    subst w'
    go_wp2_with fail
    refine (isLetter_v _ false _ HL).mono ?_
    rintro e w' ⟨rfl, hw⟩
    subst w'
    go_wp2_with fail
    refine wp_loop_rounds 1 ?_
    rw [rounds_succ]
    go_wp2_with fail
    go_ret
    exact ⟨_, rfl, .inr ⟨HC.out, rfl⟩, rfl⟩

theorem prefix_any (s : ByteArray) (w : World) (hs : s.size ≤ 1048576) :
    Calls Try.prog 16 #[.string s] w fun e w' => ∃ t, e = .returned (.string t) ∧ Pl.Res s t ∧ w' = w := by
  have hge := Lib.indexByte_ge s.data.toList 58
  by_cases hm : Lib.indexByte s.data.toList 58 = -1
  · exact prefix_none s (-1) w (by omega) hm (none_colon hm)
  · obtain ⟨o, ho⟩ : ∃ o : Nat, Lib.indexByte s.data.toList 58 = (o : Int) := ⟨(Lib.indexByte s.data.toList 58).toNat, by omega⟩
    by_cases h0 : 0 < o
    · exact prefix_some s o w hs h0 ho
    · obtain rfl : o = 0 := by omega
      obtain ⟨h1, h2, h3⟩ := first_colon ho
      refine prefix_none s 0 w (by omega) ho (only_first h1 h2 h3 ?_)
      rintro ⟨_, b2, _⟩
      omega

theorem zz_any (s : ByteArray) (w : World) (hs : s.size ≤ 1048576) :
    Calls Try.prog 8 #[.string s] w fun e w' => ∃ t, e = .returned (.string t) ∧ Pl.Res s t ∧ w' = w := by
  go_enter Try.func8, Try.ntmps8
  go_wp2_with fail
  refine (prefix_any s _ hs).mono ?_
  rintro e w' ⟨t, rfl, hr, hw⟩
  subst w'
  have HR := hid hr
  clear hr
  go_wp2_with fail
  go_ret
  exact ⟨t, rfl, HR.out, rfl⟩

end Go.Proofs.Qxb6600820a
