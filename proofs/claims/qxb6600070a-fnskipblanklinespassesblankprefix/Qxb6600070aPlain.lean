/-
  THE PLAIN FUNCTIONS of seat b6600070a and their laws: no Go in sight.
-/
import Derived.Lib.Bytealg
import Derived.Lib.Bytes
namespace Go.Proofs.Qxb6600070a.Pl

def blank (c : Int) : Bool := c == 32 || c == 9

/-- Where skipBlankLines lands: 'ls' the line's start, 'i' where we stand; 'true': inside a comment. -/
def scan : Bool → Nat → Nat → List Int → Nat
  | _, _, i, [] => i
  | false, ls, i, c :: r => if blank c then scan false ls (i + 1) r else if c == 0 then i else if c == 10 then scan false (i + 1) (i + 1) r else if c == 35 then scan true ls (i + 1) r else ls
  | true, ls, i, c :: r => if c == 10 then scan false (i + 1) (i + 1) r else scan true ls (i + 1) r

/-- zzAllBlankLines: 0 at a line's start, 1 behind a blank, 2 inside a comment. -/
def allB : Nat → List Int → Bool
  | s, [] => s == 0
  | s, c :: r => if s == 2 then (if c == 10 then allB 0 r else allB 2 r) else if blank c then allB 1 r else if c == 35 then allB 2 r else if c == 10 then allB 0 r else false

/-- zzStartsWithContent. -/
def content : List Int → Bool
  | [] => false
  | c :: r => if blank c then content r else (c != 10 && c != 35 && c != 0)

/-- bytes.IndexByte(_, '\n') -/
def ix : List Int → Int
  | [] => -1
  | c :: r => if c == 10 then 0 else if ix r == -1 then -1 else ix r + 1

theorem ix_ge : ∀ l : List Int, -1 ≤ ix l
  | [] => by simp [ix]
  | c :: r => by
    have := ix_ge r
    unfold ix
    split
    · omega
    · split <;> omega

theorem ix_lt : ∀ l : List Int, ix l < l.length
  | [] => by simp [ix]
  | c :: r => by
    have := ix_lt r
    unfold ix
    simp only [List.length_cons]
    split
    · omega
    · split <;> omega

theorem ix_eq : ∀ l : List Int, (∀ n ∈ l, 0 ≤ n ∧ n ≤ 255) → Lib.indexByte (Lib.bytesOf l) ((10 : Int).toNat.toUInt8) = ix l
  | [], _ => rfl
  | c :: r, h => by
    have ih := ix_eq r (fun n hn => h n (by simp [hn]))
    have hc := h c (by simp)
    have e : Lib.bytesOf (c :: r) = UInt8.ofNat c.toNat :: Lib.bytesOf r := rfl
    have t : (UInt8.ofNat c.toNat == (10 : Int).toNat.toUInt8) = (c == 10) := by
      rw [Bool.eq_iff_iff]
      simp only [beq_iff_eq]
      constructor
      · intro hh
        have := congrArg UInt8.toNat hh
        simp at this
        omega
      · intro hh; subst hh; rfl
    rw [e, Lib.indexByte, ix, t, ih]

theorem scan_true (ls i : Nat) (c : Int) (r : List Int) : scan true ls i (c :: r) = if c == 10 then scan false (i + 1) (i + 1) r else scan true ls (i + 1) r := by rw [scan]

theorem ix_ne (c : Int) (r : List Int) (hc : ¬ c = 10) : (ix (c :: r) = -1 ↔ ix r = -1) ∧ ∀ m : Nat, ix (c :: r) = (m : Int) ↔ (0 < m ∧ ix r = ((m - 1 : Nat) : Int)) := by
  have h0 := ix_ge r
  rw [ix]
  simp only [beq_iff_eq, hc, if_false]
  refine ⟨?_, fun m => ?_⟩
  · split <;> omega
  · split <;> omega

/-- The way of a line feed that is found: from a comment's byte on. -/
theorem scan_comment : ∀ (l : List Int) (m ls i : Nat), ix l = (m : Int) → scan true ls i l = scan false (i + m + 1) (i + m + 1) (l.drop (m + 1))
  | [], m, ls, i, h => by
    simp only [ix] at h
    omega
  | c :: r, m, ls, i, h => by
    rw [scan_true]
    by_cases hc : c = 10
    · subst hc
      simp only [ix, beq_self_eq_true, if_true] at h ⊢
      obtain rfl : m = 0 := by omega
      rfl
    · obtain ⟨hm, h1⟩ := ((ix_ne c r hc).2 m).1 h
      obtain ⟨k, rfl⟩ : ∃ k, m = k + 1 := ⟨m - 1, by omega⟩
      simp only [beq_iff_eq, hc, if_false]
      rw [scan_comment r k ls (i + 1) (by simpa using h1)]
      rw [show i + 1 + k + 1 = i + (k + 1) + 1 from by omega]
      rfl

theorem scan_comment_none : ∀ (l : List Int) (ls i : Nat), ix l = -1 → scan true ls i l = i + l.length
  | [], ls, i, _ => by simp [scan]
  | c :: r, ls, i, h => by
    rw [scan_true]
    by_cases hc : c = 10
    · subst hc
      simp [ix] at h
    · have h1 := (ix_ne c r hc).1.1 h
      simp only [beq_iff_eq, hc, if_false]
      rw [scan_comment_none r ls (i + 1) h1]
      simp; omega

/-- From a byte that is a line feed or '#'. -/
theorem scan_found (xs : List Int) (ls j m : Nat) (h : xs[j]?.getD 0 = 10 ∨ xs[j]?.getD 0 = 35) (hm : ix (xs.drop j) = (m : Int)) :
    scan false ls j (xs.drop j) = scan false (j + m + 1) (j + m + 1) (xs.drop (j + m + 1)) := by
  by_cases hj : j < xs.length
  · rw [List.drop_eq_getElem_cons hj] at hm ⊢
    have e : xs[j]?.getD 0 = xs[j] := by simp [hj]
    rw [e] at h
    rcases h with h | h
    · rw [ix, h] at hm
      simp at hm
      have : m = 0 := by omega
      subst this
      rw [scan, h]
      simp [blank]
    · have hm2 : ix (35 :: xs.drop (j + 1)) = (m : Int) := by rw [← h]; exact hm
      have hm3 : scan true ls j (35 :: xs.drop (j + 1)) = _ := scan_comment _ m ls j hm2
      rw [scan, h]
      rw [scan] at hm3
      simp [blank] at hm3 ⊢
      rw [hm3]
      congr 1
      rw [show j + m + 1 = j + 1 + m from by omega]
  · simp [List.getElem?_eq_none (Nat.le_of_not_lt hj)] at h

theorem scan_lost (xs : List Int) (ls j : Nat) (h : xs[j]?.getD 0 = 10 ∨ xs[j]?.getD 0 = 35) (hm : ix (xs.drop j) = -1) :
    scan false ls j (xs.drop j) = xs.length := by
  by_cases hj : j < xs.length
  · rw [List.drop_eq_getElem_cons hj] at hm ⊢
    have e : xs[j]?.getD 0 = xs[j] := by simp [hj]
    rw [e] at h
    rcases h with h | h
    · rw [ix, h] at hm
      simp at hm
    · have hm2 : ix (35 :: xs.drop (j + 1)) = -1 := by rw [← h]; exact hm
      have hm3 := scan_comment_none _ ls j hm2
      rw [scan, h]
      rw [scan] at hm3
      simp [blank] at hm3 ⊢
      rw [hm3]
      omega
  · simp [List.getElem?_eq_none (Nat.le_of_not_lt hj)] at h

theorem scan_blank (xs : List Int) (ls j : Nat) (h : blank (xs[j]?.getD 0) = true) : scan false ls j (xs.drop j) = scan false ls (j + 1) (xs.drop (j + 1)) := by
  by_cases hj : j < xs.length
  · rw [List.drop_eq_getElem_cons hj]
    have e : xs[j]?.getD 0 = xs[j] := by simp [hj]
    rw [e] at h
    rw [scan, h]
    simp
  · simp [List.getElem?_eq_none (Nat.le_of_not_lt hj), blank] at h

theorem scan_zero (xs : List Int) (ls j : Nat) (hj : j ≤ xs.length) (h : xs[j]?.getD 0 = 0) : scan false ls j (xs.drop j) = j := by
  by_cases hj : j < xs.length
  · rw [List.drop_eq_getElem_cons hj]
    have e : xs[j]?.getD 0 = xs[j] := by simp [hj]
    rw [e] at h
    rw [scan, h]
    simp [blank]
  · rw [List.drop_eq_nil_of_le (by omega)]; simp [scan]

theorem scan_other (xs : List Int) (ls j : Nat) (h : blank (xs[j]?.getD 0) = false) (h0 : xs[j]?.getD 0 ≠ 0) (h1 : xs[j]?.getD 0 ≠ 10) (h2 : xs[j]?.getD 0 ≠ 35) : scan false ls j (xs.drop j) = ls := by
  by_cases hj : j < xs.length
  · rw [List.drop_eq_getElem_cons hj]
    have e : xs[j]?.getD 0 = xs[j] := by simp [hj]
    rw [e] at h h0 h1 h2
    rw [scan, h]
    simp [h0, h1, h2]
  · simp [List.getElem?_eq_none (Nat.le_of_not_lt hj)] at h0

/-- At a place in the text. -/
theorem scan_le : ∀ (l : List Int) (m : Bool) (ls i : Nat), ls ≤ i → scan m ls i l ≤ i + l.length
  | [], m, ls, i, h => by simp [scan]
  | c :: r, false, ls, i, h => by
    unfold scan
    have a := scan_le r false ls (i + 1) (by omega)
    have b := scan_le r false (i + 1) (i + 1) (by omega)
    have d := scan_le r true ls (i + 1) (by omega)
    simp only [List.length_cons]
    split
    · omega
    · split
      · omega
      · split
        · omega
        · split <;> omega
  | c :: r, true, ls, i, h => by
    unfold scan
    have b := scan_le r false (i + 1) (i + 1) (by omega)
    have d := scan_le r true ls (i + 1) (by omega)
    simp only [List.length_cons]
    split <;> omega

theorem scan_shift (d : Nat) : ∀ (l : List Int) (m : Bool) (ls i : Nat), scan m (d + ls) (d + i) l = d + scan m ls i l
  | [], m, ls, i => by simp [scan]
  | c :: r, false, ls, i => by
    have a := scan_shift d r false ls (i + 1)
    have b := scan_shift d r false (i + 1) (i + 1)
    have e := scan_shift d r true ls (i + 1)
    unfold scan
    simp only [Nat.add_assoc] at a b e ⊢
    split
    · exact a
    · split
      · rfl
      · split
        · exact b
        · split
          · exact e
          · rfl
  | c :: r, true, ls, i => by
    have b := scan_shift d r false (i + 1) (i + 1)
    have e := scan_shift d r true ls (i + 1)
    unfold scan
    simp only [Nat.add_assoc] at b e ⊢
    split
    · exact b
    · exact e

theorem scan_past (b : List Int) : ∀ (a : List Int) (i : Nat),
    (allB 0 a = true → scan false i i (a ++ b) = scan false (i + a.length) (i + a.length) b) ∧
    (allB 1 a = true → ∀ ls, scan false ls i (a ++ b) = scan false (i + a.length) (i + a.length) b) ∧
    (allB 2 a = true → ∀ ls, scan true ls i (a ++ b) = scan false (i + a.length) (i + a.length) b)
  | [], i => by simp [allB]
  | c :: r, i => by
    obtain ⟨h0, h1, h2⟩ := scan_past b r (i + 1)
    have e : i + (c :: r).length = i + 1 + r.length := by simp; omega
    rw [e]
    have key : ∀ s, s ≠ 2 → allB s (c :: r) = true → ∀ ls, scan false ls i (c :: r ++ b) = scan false (i + 1 + r.length) (i + 1 + r.length) b := by
      intro s hs h ls
      rw [allB] at h
      rw [List.cons_append, scan]
      have hs' : (s == 2) = false := by simpa using hs
      rw [hs'] at h
      simp only [Bool.false_eq_true, if_false] at h
      by_cases hb : blank c = true
      · rw [hb] at h ⊢; simp at h ⊢; exact h1 h ls
      · have hb' : blank c = false := by simpa using hb
        rw [hb'] at h ⊢
        simp only [Bool.false_eq_true, if_false] at h ⊢
        by_cases h3 : c = 35
        · subst h3; simp at h ⊢; exact h2 h ls
        · by_cases h4 : c = 10
          · subst h4; simp at h ⊢; exact h0 h
          · simp [h3, h4] at h
    refine ⟨fun h => key 0 (by decide) h i, fun h ls => key 1 (by decide) h ls, fun h ls => ?_⟩
    rw [allB] at h
    rw [List.cons_append, scan]
    simp only [beq_self_eq_true, if_true] at h
    by_cases h4 : c = 10
    · subst h4; simp at h ⊢; exact h0 h
    · simp [h4] at h ⊢; exact h2 h ls

/-- LAW 1. -/
theorem passes (a b : List Int) (h : allB 0 a = true) : scan false 0 0 (a ++ b) = a.length + scan false 0 0 b := by
  have h1 := (scan_past b a 0).1 h
  have h2 := scan_shift a.length b false 0 0
  rw [h1]
  simpa using h2

theorem content_stays : ∀ (b : List Int) (ls i : Nat), content b = true → scan false ls i b = ls
  | [], _, _, h => by simp [content] at h
  | c :: r, ls, i, h => by
    rw [content] at h
    rw [scan]
    by_cases hb : blank c = true
    · rw [hb] at h ⊢; simp at h ⊢; exact content_stays r ls (i + 1) h
    · have hb' : blank c = false := by simpa using hb
      rw [hb'] at h ⊢
      simp at h ⊢
      simp [h]

/-- LAW 2. -/
theorem lands (p a b : List Int) (h : allB 0 a = true) (hb : content b = true) : scan false p.length p.length ((p ++ a ++ b).drop p.length) = p.length + a.length := by
  rw [List.append_assoc, List.drop_left]
  rw [(scan_past b a p.length).1 h]
  exact content_stays b _ _ hb

theorem ix_at : ∀ (l : List Int) (m : Nat), ix l = (m : Int) → l[m]?.getD 0 = 10
  | [], m, h => by
    simp only [ix] at h
    omega
  | c :: r, m, h => by
    by_cases hc : c = 10
    · subst hc
      simp only [ix, beq_self_eq_true, if_true] at h
      obtain rfl : m = 0 := by omega
      rfl
    · obtain ⟨hm, h1⟩ := ((ix_ne c r hc).2 m).1 h
      obtain ⟨k, rfl⟩ : ∃ k, m = k + 1 := ⟨m - 1, by omega⟩
      simpa using ix_at r k (by simpa using h1)

theorem ix_at_drop (xs : List Int) (j m : Nat) (h : ix (xs.drop j) = (m : Int)) : xs[j + m]?.getD 0 = 10 := by
  have := ix_at _ _ h
  simpa using this

/-! Steps of zzAllBlankLines and of zzStartsWithContent, by places. -/
theorem allB_start (xs : List Int) (k : Nat) (h : k < xs.length) : allB 0 (xs.drop k) = allB 1 (xs.drop k) := by
  rw [List.drop_eq_getElem_cons h]
  simp [allB]

theorem drop_at (xs : List Int) (j : Nat) (hj : j < xs.length) : xs.drop j = xs[j]?.getD 0 :: xs.drop (j + 1) := by
  rw [List.drop_eq_getElem_cons hj]
  simp [hj]

theorem drop_end (xs : List Int) (j : Nat) (hj : xs.length ≤ j) : xs.drop j = [] := List.drop_eq_nil_of_le hj

end Go.Proofs.Qxb6600070a.Pl
