/-
  THE PLAIN FUNCTIONS of seat b6600865a and their laws: no Go in sight.
-/
import Derived.Lib.Bytealg
import Derived.Lib.Bytes
namespace Go.Proofs.Qxb6600865a.Pl

/-- bytes.IndexByte(_, '"') -/
def ix : List Int → Int
  | [] => -1
  | c :: r => if c == 34 then 0 else if ix r == -1 then -1 else ix r + 1

theorem ix_ge : ∀ l : List Int, -1 ≤ ix l
  | [] => by simp [ix]
  | c :: r => by
    have := ix_ge r
    unfold ix
    split
    · omega
    · split <;> omega

theorem ix_eq : ∀ l : List Int, (∀ n ∈ l, 0 ≤ n ∧ n ≤ 255) → Lib.indexByte (Lib.bytesOf l) ((34 : Int).toNat.toUInt8) = ix l
  | [], _ => rfl
  | c :: r, h => by
    have ih := ix_eq r (fun n hn => h n (by simp [hn]))
    have hc := h c (by simp)
    have e : Lib.bytesOf (c :: r) = UInt8.ofNat c.toNat :: Lib.bytesOf r := rfl
    have t : (UInt8.ofNat c.toNat == (34 : Int).toNat.toUInt8) = (c == 34) := by
      rw [Bool.eq_iff_iff]
      simp only [beq_iff_eq]
      constructor
      · intro hh
        have := congrArg UInt8.toNat hh
        simp at this
        omega
      · intro hh; subst hh; rfl
    rw [e, Lib.indexByte, ix, t, ih]

/-- A quote that is there is found, or one before it. -/
theorem ix_found : ∀ (l : List Int) (d : Nat), l[d]?.getD 0 = 34 → ∃ m : Nat, ix l = (m : Int) ∧ m ≤ d ∧ l[m]?.getD 0 = 34
  | [], d, h => by simp at h
  | c :: r, d, h => by
    by_cases hc : c = 34
    · subst hc
      exact ⟨0, by simp [ix], Nat.zero_le _, by simp⟩
    · cases d with
      | zero => simp at h; exact absurd h hc
      | succ d =>
        obtain ⟨m, h1, h2, h3⟩ := ix_found r d (by simpa using h)
        refine ⟨m + 1, ?_, by omega, by simpa using h3⟩
        rw [ix]
        simp only [beq_iff_eq, hc, if_false]
        rw [h1, if_neg (by omega)]
        omega

/-- Each quote and backslash behind a backslash. -/
def escq : List Int → List Int
  | [] => []
  | c :: r => if c == 34 || c == 92 then 92 :: c :: escq r else c :: escq r

/-- Does a backslash stand open behind this text? -/
def step (f : Bool) (c : Int) : Bool := !f && c == 92
def fl (l : List Int) : Bool := l.foldl step false

theorem fl_snoc (l : List Int) (c : Int) : fl (l ++ [c]) = (!fl l && c == 92) := by
  unfold fl
  rw [List.foldl_append]
  rfl

theorem fl_cons (c : Int) (l : List Int) (h : step false c = false) : fl (c :: l) = fl l := by
  unfold fl
  rw [List.foldl_cons, h]

theorem fl_pair (c : Int) (l : List Int) : fl (92 :: c :: l) = fl l := by
  unfold fl
  rw [List.foldl_cons, List.foldl_cons]
  rfl

/-- In escaped text every quote stands behind an open backslash; behind it none is open. -/
theorem escq_fl : ∀ l : List Int, fl (escq l) = false ∧ ∀ m, (escq l)[m]?.getD 0 = 34 → fl ((escq l).take m) = true
  | [] => ⟨rfl, fun m h => by simp [escq] at h⟩
  | c :: r => by
    obtain ⟨h1, h2⟩ := escq_fl r
    rw [escq]
    by_cases hc : (c == 34 || c == 92) = true
    · rw [if_pos hc]
      refine ⟨by rw [fl_pair]; exact h1, fun m hm => ?_⟩
      match m, hm with
      | 0, hm => simp at hm
      | 1, _ => rfl
      | m + 2, hm =>
        simp only [List.take_succ_cons]
        rw [fl_pair]
        exact h2 m (by simpa using hm)
    · rw [if_neg hc]
      have hs : step false c = false := by
        simp only [Bool.or_eq_true, not_or] at hc
        simp only [step, Bool.not_false, Bool.true_and]
        simpa using hc.2
      refine ⟨by rw [fl_cons _ _ hs]; exact h1, fun m hm => ?_⟩
      match m, hm with
      | 0, hm =>
        simp only [Bool.or_eq_true, not_or, beq_iff_eq] at hc
        simp at hm
        exact absurd hm hc.1
      | m + 1, hm =>
        simp only [List.take_succ_cons]
        rw [fl_cons _ _ hs]
        exact h2 m (by simpa using hm)

/-- The parity of the run of backslashes that ends before place m tells whether one is open there. -/
theorem parity (y : List Int) : ∀ m b : Nat, m ≤ y.length → b ≤ m → (∀ i, b ≤ i → i < m → y[i]?.getD 0 = 92) → (b = 0 ∨ y[b - 1]?.getD 0 ≠ 92) → fl (y.take m) = decide ((m - b) % 2 = 1)
  | 0, b, _, hb, _, _ => by
    obtain rfl : b = 0 := by omega
    rfl
  | m + 1, b, hm, hb, hrun, hend => by
    have e : y.take (m + 1) = y.take m ++ [y[m]?.getD 0] := by
      rw [List.take_succ_eq_append_getElem (by omega)]
      simp [List.getElem?_eq_getElem (show m < y.length by omega)]
    rw [e, fl_snoc]
    by_cases hbm : b = m + 1
    · subst hbm
      have hne : y[m]?.getD 0 ≠ 92 := by
        rcases hend with h | h
        · omega
        · simpa using h
      have e2 : (y[m]?.getD 0 == 92) = false := by simpa using hne
      rw [e2]
      simp
    · have h92 := hrun m (by omega) (by omega)
      rw [h92, parity y m b (by omega) (by omega) (fun i h1 h2 => hrun i h1 (by omega)) hend]
      rw [Bool.eq_iff_iff]
      simp
      omega

/-- What skipString leans on: the text's closing quote at place q. -/
def Good (xs : List Int) (q : Nat) : Prop := xs[q]?.getD 0 = 34 ∧ ∀ j b : Nat, 1 ≤ b → b ≤ j → j ≤ q → xs[j]?.getD 0 = 34 → (∀ i, b ≤ i → i < j → xs[i]?.getD 0 = 92) → (b = 1 ∨ xs[b - 1]?.getD 0 ≠ 92) →
  (j = q → (j - b) % 2 = 0) ∧ (j < q → (j - b) % 2 = 1)

/-- THE LAW. -/
theorem good (l t : List Int) : Good (34 :: (escq l ++ 34 :: t)) ((escq l).length + 1) := by
  obtain ⟨hf, hq⟩ := escq_fl l
  refine ⟨by simp, fun j b h1 h2 h3 h4 h5 h6 => ?_⟩
  obtain ⟨m, rfl⟩ : ∃ m, j = m + 1 := ⟨j - 1, by omega⟩
  obtain ⟨d, rfl⟩ : ∃ d, b = d + 1 := ⟨b - 1, by omega⟩
  have hp := parity (escq l ++ 34 :: t) m d (by simp; omega) (by omega) (fun i hi hj => by simpa using h5 (i + 1) (by omega) (by omega)) (by
    rcases h6 with h | h
    · exact .inl (by omega)
    · by_cases hd : d = 0
      · exact .inl hd
      · obtain ⟨d', rfl⟩ : ∃ d', d = d' + 1 := ⟨d - 1, by omega⟩
        exact .inr (by simpa using h))
  have ht : (escq l ++ 34 :: t).take m = (escq l).take m := List.take_append_of_le_length (by omega)
  rw [ht] at hp
  have h4' : (escq l ++ 34 :: t)[m]?.getD 0 = 34 := by simpa using h4
  refine ⟨fun e => ?_, fun e => ?_⟩
  · obtain rfl : m = (escq l).length := by omega
    rw [List.take_length, hf] at hp
    have := of_decide_eq_false hp.symm
    omega
  · rw [List.getElem?_append_left (by omega)] at h4'
    rw [hq m h4'] at hp
    have := of_decide_eq_true hp.symm
    omega

theorem escq_snoc (l : List Int) (c : Int) : escq (l ++ [c]) = escq l ++ (if c == 34 || c == 92 then [92, c] else [c]) := by
  induction l with
  | nil => simp only [List.nil_append, escq]
  | cons a r ih =>
    rw [List.cons_append, escq, ih, escq]
    split <;> simp

theorem escq_length : ∀ l : List Int, (escq l).length ≤ 2 * l.length
  | [] => by simp [escq]
  | c :: r => by
    have := escq_length r
    rw [escq]
    split <;> simp <;> omega

theorem escq_byte : ∀ l : List Int, (∀ n ∈ l, 0 ≤ n ∧ n ≤ 255) → ∀ n ∈ escq l, 0 ≤ n ∧ n ≤ 255
  | [], _ => by simp [escq]
  | c :: r, h => by
    have ih := escq_byte r (fun n hn => h n (by simp [hn]))
    have hc := h c (by simp)
    rw [escq]
    intro n hn
    split at hn
    · simp only [List.mem_cons] at hn
      rcases hn with rfl | rfl | hn
      · omega
      · exact hc
      · exact ih n hn
    · simp only [List.mem_cons] at hn
      rcases hn with rfl | hn
      · exact hc
      · exact ih n hn

end Go.Proofs.Qxb6600865a.Pl
