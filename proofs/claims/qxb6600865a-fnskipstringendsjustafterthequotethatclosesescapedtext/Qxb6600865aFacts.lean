/-
  THE CLOSED FACTS of the row, one lemma a fact (seat b6600865a). Taken together in one declaration they outgrow the kernel's memory here: three of them read the dump's head word by word, and the kernel's reckoning of a long string's signs is dear. So those three are drawn from the head's first word alone.
-/
import Derived.Test.Qxb6600865aRows
import Derived.WalkKit
import Derived.ProofKit
namespace Go.Proofs.Qxb6600865a
open Go.RowKit

theorem and_mk {a b : Bool} (ha : a = true) (hb : b = true) : (a && b) = true := by rw [ha, hb]; rfl

theorem cons_of {α : Type} {l : List α} {x : α} (h : l.head? = some x) : ∃ t, l = x :: t := by
  cases l with
  | nil => cases h
  | cons a t => exact ⟨t, by simpa using h⟩

set_option maxRecDepth 1000000 in
theorem head_signs : ∃ l, Try.prog.initOrder = String.ofList l ∧ (behindMainWord (wordsSigns l)).head? = some ['c', 'u', 't'] := ⟨_, rfl, by kernel_rfl⟩

theorem head_word : ∃ W, behindMainWord (wordsSigns Try.prog.initOrder.toList) = ['c', 'u', 't'] :: W := by
  obtain ⟨l, h1, h2⟩ := head_signs
  rw [h1, String.toList_ofList]
  exact cons_of h2

theorem strip_cut (W : List (List Char)) : stripLifts liftWords (['c', 'u', 't'] :: W) = ([], ['c', 'u', 't'] :: W) := by kernel_rfl

theorem cut_signs : "cut".toList = ['c', 'u', 't'] := by kernel_rfl

theorem lifts_of (P : Program) (W : List (List Char)) (h : behindMainWord (wordsSigns P.initOrder.toList) = ['c', 'u', 't'] :: W) : P.headLifts = [] := by
  unfold Program.headLifts
  rw [h, strip_cut]
  dsimp only
  split <;> rfl

theorem final_of (P : Program) (W : List (List Char)) (h : behindMainWord (wordsSigns P.initOrder.toList) = ['c', 'u', 't'] :: W) : P.liftsFinal = false := by
  unfold Program.liftsFinal
  rw [lifts_of P W h, h]
  kernel_rfl

theorem make_of (P : Program) (W : List (List Char)) (h : behindMainWord (wordsSigns P.initOrder.toList) = ['c', 'u', 't'] :: W) : P.make = some .cut := by
  unfold Program.make
  rw [h]
  change _ = _
  kernel_rfl

theorem may_of (P : Program) (W : List (List Char)) (h : behindMainWord (wordsSigns P.initOrder.toList) = ['c', 'u', 't'] :: W) (h1 : P.laysLater = false) (h2 : P.bearsReflect = false) (h3 : P.doorFits [] = true) : P.mayEnter = true := by
  unfold Program.mayEnter
  rw [h]
  dsimp only
  rw [strip_cut, h1, h2, cut_signs]
  simp [h3]

theorem lays : Try.prog.laysLater = false := by kernel_rfl
theorem reflects : Try.prog.bearsReflect = false := by kernel_rfl
theorem door : Try.prog.doorFits [] = true := by kernel_rfl

theorem fact_lifted : (Rows.fnSkipStringEndsJustAfterTheQuoteThatClosesEscapedTextRow.lifted == Try.prog.liftsFinal) = true := by
  obtain ⟨W, h⟩ := head_word
  rw [final_of _ W h]
  rfl

theorem fact_make : (Try.prog.make == some Rows.fnSkipStringEndsJustAfterTheQuoteThatClosesEscapedTextRow.make) = true := by
  obtain ⟨W, h⟩ := head_word
  rw [make_of _ W h]
  kernel_rfl

theorem fact_enter : Try.prog.mayEnter = true := by
  obtain ⟨W, h⟩ := head_word
  exact may_of _ W h lays reflects door

set_option maxHeartbeats 4000000 in
theorem closed : joinedFacts Try.prog 6 Try.f6 Rows.fnSkipStringEndsJustAfterTheQuoteThatClosesEscapedTextSpec Rows.fnSkipStringEndsJustAfterTheQuoteThatClosesEscapedTextRow = true := by
  unfold joinedFacts
  repeat' (with_reducible refine and_mk ?_ ?_)
  all_goals first | with_reducible exact fact_lifted | with_reducible exact fact_make | with_reducible exact fact_enter | (as_aux_lemma => kernel_rfl)

end Go.Proofs.Qxb6600865a
