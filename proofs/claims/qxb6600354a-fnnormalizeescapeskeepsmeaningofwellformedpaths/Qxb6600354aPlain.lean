/-
  THE PLAIN FUNCTIONS of seat b6600354a and their laws: no Go in sight.
-/
namespace Go.Proofs.Qxb6600354a.Pl

/-- isHex -/
def hexB (c : UInt8) : Bool := (decide (48 ≤ c.toNat) && decide (c.toNat ≤ 57)) || (decide (97 ≤ c.toNat) && decide (c.toNat ≤ 102)) || (decide (65 ≤ c.toNat) && decide (c.toNat ≤ 70))

/-- unhex, of a hex digit -/
def hv (c : UInt8) : Nat := if c.toNat ≤ 57 then c.toNat - 48 else if c.toNat ≤ 70 then c.toNat - 55 else c.toNat - 87

/-- The byte that two hex digits spell. -/
def vl (a b : UInt8) : UInt8 := UInt8.ofNat (hv a * 16 + hv b)

/-- isUnreserved -/
def unres (c : UInt8) : Bool := (decide (97 ≤ c.toNat) && decide (c.toNat ≤ 122)) || (decide (65 ≤ c.toNat) && decide (c.toNat ≤ 90)) || (decide (48 ≤ c.toNat) && decide (c.toNat ≤ 57)) || c.toNat == 45 || c.toNat == 46 || c.toNat == 95 || c.toNat == 126

/-- upperHex -/
def up (c : UInt8) : UInt8 := if 97 ≤ c.toNat ∧ c.toNat ≤ 102 then UInt8.ofNat (c.toNat - 32) else c

/-- Does the text open with a valid escape? -/
def esc : List UInt8 → Bool
  | c :: a :: b :: _ => c == 37 && hexB a && hexB b
  | _ => false

/-- normalizeEscapes -/
def norm : List UInt8 → List UInt8
  | c :: a :: b :: t => if c == 37 && hexB a && hexB b then (if unres (vl a b) then vl a b :: norm t else 37 :: up a :: up b :: norm t) else c :: norm (a :: b :: t)
  | [c, d] => [c, d]
  | [c] => [c]
  | [] => []

/-- b1PctDecode -/
def dec : List UInt8 → List UInt8
  | c :: a :: b :: t => if c == 37 && hexB a && hexB b then vl a b :: dec t else c :: dec (a :: b :: t)
  | [c, d] => [c, d]
  | [c] => [c]
  | [] => []

/-- b1WellFormedEscapes -/
def wf : List UInt8 → Bool
  | [] => true
  | c :: r => (!(c == 37) || esc (c :: r)) && wf r

theorem norm_plain (c : UInt8) (r : List UInt8) (h : esc (c :: r) = false) : norm (c :: r) = c :: norm r := by
  match r with
  | [] => rfl
  | [d] => rfl
  | a :: b :: t =>
    rw [norm]
    rw [esc] at h
    rw [h]
    rfl

theorem dec_plain (c : UInt8) (r : List UInt8) (h : esc (c :: r) = false) : dec (c :: r) = c :: dec r := by
  match r with
  | [] => rfl
  | [d] => rfl
  | a :: b :: t =>
    rw [dec]
    rw [esc] at h
    rw [h]
    rfl

theorem norm_esc (a b : UInt8) (t : List UInt8) (ha : hexB a = true) (hb : hexB b = true) : norm (37 :: a :: b :: t) = if unres (vl a b) then vl a b :: norm t else 37 :: up a :: up b :: norm t := by
  rw [norm, ha, hb]
  rfl

theorem dec_esc (a b : UInt8) (t : List UInt8) (ha : hexB a = true) (hb : hexB b = true) : dec (37 :: a :: b :: t) = vl a b :: dec t := by
  rw [dec, ha, hb]
  rfl

theorem esc_cases (l : List UInt8) (h : esc l = true) : ∃ a b t, l = 37 :: a :: b :: t ∧ hexB a = true ∧ hexB b = true := by
  match l with
  | [] => simp [esc] at h
  | [_] => simp [esc] at h
  | [_, _] => simp [esc] at h
  | c :: a :: b :: t =>
    simp only [esc, Bool.and_eq_true, beq_iff_eq] at h
    obtain ⟨⟨rfl, ha⟩, hb⟩ := h
    exact ⟨a, b, t, rfl, ha, hb⟩

theorem esc_ne (c : UInt8) (r : List UInt8) (h : c ≠ 37) : esc (c :: r) = false := by
  match r with
  | [] => rfl
  | [_] => rfl
  | a :: b :: t =>
    have : (c == 37) = false := by simpa using h
    simp [esc, this]

theorem up_id (c : UInt8) (h : ¬ (97 ≤ c.toNat ∧ c.toNat ≤ 102)) : up c = c := by unfold up; rw [if_neg h]

theorem hex_up (a : UInt8) (h : hexB a = true) : hexB (up a) = true ∧ hv (up a) = hv a ∧ up (up a) = up a ∧ up a ≠ 37 := by
  have ht : ∀ n : Nat, n < 256 → (UInt8.ofNat n).toNat = n := fun n hn => by simp; omega
  have hlt := a.toNat_lt
  simp only [hexB, Bool.or_eq_true, Bool.and_eq_true, decide_eq_true_eq] at h
  by_cases hc : 97 ≤ a.toNat ∧ a.toNat ≤ 102
  · have e : up a = UInt8.ofNat (a.toNat - 32) := by unfold up; rw [if_pos hc]
    have et : (up a).toNat = a.toNat - 32 := by rw [e]; exact ht _ (by omega)
    refine ⟨?_, ?_, ?_, ?_⟩
    · simp only [hexB, Bool.or_eq_true, Bool.and_eq_true, decide_eq_true_eq, et]
      omega
    · unfold hv
      rw [et]
      repeat' split
      all_goals omega
    · exact up_id (up a) (by rw [et]; omega)
    · intro h37
      have := congrArg UInt8.toNat h37
      rw [et] at this
      have e37 : (37 : UInt8).toNat = 37 := rfl
      omega
  · have e : up a = a := by unfold up; rw [if_neg hc]
    rw [e]
    refine ⟨?_, rfl, e, ?_⟩
    · simp only [hexB, Bool.or_eq_true, Bool.and_eq_true, decide_eq_true_eq]
      exact h
    · intro h37
      have := congrArg UInt8.toNat h37
      have e37 : (37 : UInt8).toNat = 37 := rfl
      omega

theorem unres_ne (c : UInt8) (h : unres c = true) : c ≠ 37 := by
  intro h37
  subst h37
  revert h
  decide

theorem wf_tail (c : UInt8) (r : List UInt8) (h : wf (c :: r) = true) : wf r = true := by
  rw [wf] at h
  simp only [Bool.and_eq_true] at h
  exact h.2

theorem wf_head (c : UInt8) (r : List UInt8) (h : wf (c :: r) = true) (he : esc (c :: r) = false) : c ≠ 37 := by
  rw [wf, he] at h
  simp only [Bool.and_eq_true, Bool.or_false] at h
  have := h.1
  simpa using this

/-- LAW 1, whole. -/
theorem shrinks : ∀ (n : Nat) (l : List UInt8), l.length ≤ n → (∃ k, l.length = (norm l).length + 2 * k) ∧ (norm l).count 37 ≤ l.count 37
  | 0, l, h => by
    have : l = [] := List.length_eq_zero_iff.1 (by omega)
    subst this
    exact ⟨⟨0, rfl⟩, Nat.le_refl _⟩
  | n + 1, l, h => by
    match l, h with
    | [], _ => exact ⟨⟨0, rfl⟩, Nat.le_refl _⟩
    | c :: r, h =>
      by_cases he : esc (c :: r) = true
      · obtain ⟨a, b, t, e, ha, hb⟩ := esc_cases _ he
        rw [e] at h ⊢
        obtain ⟨⟨k, hk⟩, hc⟩ := shrinks n t (by simp at h; omega)
        rw [norm_esc a b t ha hb]
        by_cases hu : unres (vl a b) = true
        · rw [if_pos hu]
          refine ⟨⟨k + 1, by simp; omega⟩, ?_⟩
          rw [List.count_cons, List.count_cons_self]
          have := unres_ne _ hu
          have e2 : (vl a b == 37) = false := by simpa using this
          rw [e2]
          have h3 : t.count 37 ≤ (a :: b :: t).count 37 := List.Sublist.count_le _ ((List.sublist_cons_self b t).trans (List.sublist_cons_self a (b :: t)))
          simp
          omega
        · rw [if_neg hu]
          refine ⟨⟨k, by simp; omega⟩, ?_⟩
          rw [List.count_cons_self, List.count_cons_self, List.count_cons, List.count_cons]
          have e1 : (up a == 37) = false := by simpa using (hex_up a ha).2.2.2
          have e2 : (up b == 37) = false := by simpa using (hex_up b hb).2.2.2
          rw [e1, e2]
          have h3 : t.count 37 ≤ (a :: b :: t).count 37 := List.Sublist.count_le _ ((List.sublist_cons_self b t).trans (List.sublist_cons_self a (b :: t)))
          simp
          omega
      · have he' : esc (c :: r) = false := by simpa using he
        obtain ⟨⟨k, hk⟩, hc⟩ := shrinks n r (by simp at h; omega)
        rw [norm_plain c r he']
        refine ⟨⟨k, by simp; omega⟩, ?_⟩
        rw [List.count_cons, List.count_cons]
        omega

theorem norm_same : ∀ (l : List UInt8), (37 : UInt8) ∉ l → norm l = l
  | [], _ => rfl
  | c :: r, h => by
    have hc : c ≠ 37 := fun e => h (by simp [e])
    rw [norm_plain c r (esc_ne c r hc), norm_same r (fun hm => h (by simp [hm]))]

/-- LAW 2, whole. -/
theorem keeps : ∀ (n : Nat) (l : List UInt8), l.length ≤ n → wf l = true → dec (norm l) = dec l ∧ norm (norm l) = norm l
  | 0, l, h, _ => by
    have : l = [] := List.length_eq_zero_iff.1 (by omega)
    subst this
    exact ⟨rfl, rfl⟩
  | n + 1, l, h, hw => by
    match l, h, hw with
    | [], _, _ => exact ⟨rfl, rfl⟩
    | c :: r, h, hw =>
      by_cases he : esc (c :: r) = true
      · obtain ⟨a, b, t, e, ha, hb⟩ := esc_cases _ he
        rw [e] at h hw ⊢
        have hwt : wf t = true := wf_tail _ _ (wf_tail _ _ (wf_tail _ _ hw))
        obtain ⟨h1, h2⟩ := keeps n t (by simp at h; omega) hwt
        rw [norm_esc a b t ha hb, dec_esc a b t ha hb]
        by_cases hu : unres (vl a b) = true
        · rw [if_pos hu]
          have hne := esc_ne (vl a b) (norm t) (unres_ne _ hu)
          rw [dec_plain _ _ hne, norm_plain _ _ hne, h1, h2]
          exact ⟨rfl, rfl⟩
        · rw [if_neg hu]
          obtain ⟨ua1, ua2, ua3, _⟩ := hex_up a ha
          obtain ⟨ub1, ub2, ub3, _⟩ := hex_up b hb
          have ev : vl (up a) (up b) = vl a b := by unfold vl; rw [ua2, ub2]
          rw [dec_esc _ _ _ ua1 ub1, norm_esc _ _ _ ua1 ub1, ev, if_neg hu, ua3, ub3, h1, h2]
          exact ⟨rfl, rfl⟩
      · have he' : esc (c :: r) = false := by simpa using he
        have hc := wf_head c r hw he'
        obtain ⟨h1, h2⟩ := keeps n r (by simp at h; omega) (wf_tail _ _ hw)
        rw [norm_plain c r he']
        have hne := esc_ne c (norm r) hc
        rw [dec_plain _ _ hne, norm_plain _ _ hne, dec_plain c r he', h1, h2]
        exact ⟨rfl, rfl⟩

theorem norm_length (l : List UInt8) : (norm l).length ≤ l.length := by
  obtain ⟨⟨k, hk⟩, _⟩ := shrinks l.length l (Nat.le_refl _)
  omega

end Go.Proofs.Qxb6600354a.Pl
