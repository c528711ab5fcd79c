/-
  WHAT BOTH ROADS FIND (seat b6600820a), said of the string alone: no Go in sight.
-/
namespace Go.Proofs.Qxb6600820a.Pl

def letter (c : UInt8) : Bool := (decide (97 ≤ c.toNat) && decide (c.toNat ≤ 122)) || (decide (65 ≤ c.toNat) && decide (c.toNat ≤ 90))
def alnum (c : UInt8) : Bool := letter c || (decide (48 ≤ c.toNat) && decide (c.toNat ≤ 57))
def tail (c : UInt8) : Bool := alnum c || c.toNat == 43 || c.toNat == 45 || c.toNat == 46

theorem tail_colon : tail 58 = false := by decide
theorem letter_colon : letter 58 = false := by decide

/-- Place j of s holds the ':' that ends a scheme. -/
def Colon (s : ByteArray) (j : Nat) : Prop := ∃ h : j < s.size, 0 < j ∧ letter (s[0]'(by omega)) = true ∧ (∀ i (hi : i < j), 1 ≤ i → tail (s[i]'(by omega)) = true) ∧ s[j] = 58

/-- e ends the run of '/' behind place j. -/
def Ends (s : ByteArray) (j e : Nat) : Prop := j + 1 ≤ e ∧ e ≤ s.size ∧ (∀ i (h : i < s.size), j + 1 ≤ i → i < e → s[i] = 47) ∧ ∀ h : e < s.size, s[e] ≠ 47

/-- t is the scheme prefix of s. -/
def Res (s t : ByteArray) : Prop := (∃ j e, Colon s j ∧ Ends s j e ∧ t = s.extract 0 e) ∨ ((∀ j, ¬ Colon s j) ∧ t = ⟨#[]⟩)

theorem colon_unique {s : ByteArray} {i j : Nat} (hi : Colon s i) (hj : Colon s j) : i = j := by
  obtain ⟨a1, a2, a3, a4, a5⟩ := hi
  obtain ⟨b1, b2, b3, b4, b5⟩ := hj
  rcases Nat.lt_trichotomy i j with h | h | h
  · have := b4 i h (by omega)
    rw [a5, tail_colon] at this
    cases this
  · exact h
  · have := a4 j h (by omega)
    rw [b5, tail_colon] at this
    cases this

theorem ends_unique {s : ByteArray} {j d e : Nat} (hd : Ends s j d) (he : Ends s j e) : d = e := by
  obtain ⟨a1, a2, a3, a4⟩ := hd
  obtain ⟨b1, b2, b3, b4⟩ := he
  rcases Nat.lt_trichotomy d e with h | h | h
  · exact absurd (b3 d (by omega) (by omega) h) (a4 (by omega))
  · exact h
  · exact absurd (a3 e (by omega) (by omega) h) (b4 (by omega))

/-- THE LAW. -/
theorem res_unique {s t u : ByteArray} (ht : Res s t) (hu : Res s u) : t = u := by
  rcases ht with ⟨j, e, hc, he, rfl⟩ | ⟨hn, rfl⟩
  · rcases hu with ⟨j', e', hc', he', rfl⟩ | ⟨hn, rfl⟩
    · obtain rfl := colon_unique hc hc'
      obtain rfl := ends_unique he he'
      rfl
    · exact absurd hc (hn j)
  · rcases hu with ⟨j', e', hc', he', rfl⟩ | ⟨_, rfl⟩
    · exact absurd hc' (hn j')
    · rfl

/-- All bytes from place 1 to before place k may stand in a scheme. -/
def Run (s : ByteArray) (k : Nat) : Prop := ∀ i (h : i < s.size), 1 ≤ i → i < k → tail s[i] = true

theorem run_one (s : ByteArray) : Run s 1 := fun i _ h1 h2 => by omega

theorem run_succ {s : ByteArray} {k : Nat} (h : Run s k) (hk : k < s.size) (ht : tail s[k] = true) : Run s (k + 1) := fun i hi h1 h2 => by
  by_cases e : i = k
  · subst e; exact ht
  · exact h i hi h1 (by omega)

theorem no_end {s : ByteArray} (h : Run s s.size) (j : Nat) : ¬ Colon s j := by
  rintro ⟨h1, h2, h3, h4, h5⟩
  have := h j h1 h2 h1
  rw [h5, tail_colon] at this
  cases this

theorem no_tail {s : ByteArray} {k : Nat} (h : Run s k) (h1 : 1 ≤ k) (hk : k < s.size) (ht : tail s[k] = false) (hc : s[k] ≠ 58) (j : Nat) : ¬ Colon s j := by
  rintro ⟨b1, b2, b3, b4, b5⟩
  rcases Nat.lt_trichotomy j k with h' | h' | h'
  · have := h j b1 b2 h'
    rw [b5, tail_colon] at this
    cases this
  · subst h'; exact hc b5
  · have := b4 k h' h1
    rw [ht] at this
    cases this

theorem no_letter {s : ByteArray} (hs : 0 < s.size) (h : letter s[0] = false) (j : Nat) : ¬ Colon s j := by
  rintro ⟨b1, b2, b3, b4, b5⟩
  rw [h] at b3
  cases b3

theorem no_byte {s : ByteArray} (h : ¬ 0 < s.size) (j : Nat) : ¬ Colon s j := by
  rintro ⟨b1, _⟩
  omega

theorem yes {s : ByteArray} {k : Nat} (h : Run s k) (h1 : 1 ≤ k) (hk : k < s.size) (hl : letter (s[0]'(by omega)) = true) (hc : s[k] = 58) : Colon s k :=
  ⟨hk, by omega, hl, fun i hi h' => h i (by omega) h' hi, hc⟩

end Go.Proofs.Qxb6600820a.Pl
