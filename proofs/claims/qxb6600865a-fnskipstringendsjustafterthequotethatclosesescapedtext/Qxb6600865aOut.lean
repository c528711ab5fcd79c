/-
  THE SLICE THAT THE LAW FILLS BY append (seat b6600865a).
-/
import Derived.Test.Qxb6600865aMakes
namespace Go.Proofs.Qxb6600865a
open Go.RowKit
set_option linter.unusedVariables false

/-- The slice of bytes that the call is filling: L bytes, the numbers acc, in a block of the call's own. -/
structure Out (w wr : World) (g L cap : Nat) (acc : List Int) : Prop where
  len : acc.length = L
  own : wr.ownsRow w.heap.size 5 1 (.slice (some ⟨g, 0, none⟩) L cap) L (acc.map (Value.int .u8))
  below : Below w.heap.size w wr

theorem append_byte {ops : Array Oper} {rest : List Oper} {o : Oper} {a : Act} {Q : Exit → Act → World → Prop} (w wr : World) (g L cap : Nat) (acc : List Int) (xv : Int) (hO : Out w wr g L cap acc) (hgd : o.guard = none) (s x : Operand)
    (ho : o.op = .call { callee := .builtin .append, args := #[s, x], argTypes := #[23, 23] }) (hs : a.eval s = .slice (some ⟨g, 0, none⟩) L cap) (hx : a.eval x = .slice (some ⟨wr.heap.size, 0, none⟩) 1 1) (hl : L ≤ 4194304)
    (h : ∀ g' cap' w', Hid (Out w w' g' (L + 1) cap' (acc ++ [xv])) → wpList Try.prog ops Q rest (a.put o.dst (.slice (some ⟨g', 0, none⟩) (L + 1) cap')) w') : wpList Try.prog ops Q (o :: rest) a (wr.alloc (.cells #[.int .u8 xv] 5)) := by
  obtain ⟨i0, hi, hz0, hz1, hz2⟩ := info_parts Try.info5
  refine wpList_append_own _ hgd s x 23 ho w.heap.size 5 i0 (.int .u8 0) 1 1 Try.underlying23 hi hz0 hz1 hz2 rfl (by decide) (.slice (some ⟨g, 0, none⟩) L cap) L (acc.map (Value.int .u8)) hs (hO.own.alloc _) ⟨wr.heap.size, 0, none⟩ 1 1 [.int .u8 xv] hx rfl ?_ ?_ (by unfold maxLen; omega) (by omega) ?_ ?_
  · intro j u hj
    match j, hj with
    | 0, hj => simp at hj; subst hj; simp [Addr.add]
  · intro u hu; simp at hu; subst hu; rfl
  · have := hO.below.size; simp; omega
  · intro v' w1 hown' hgrow _
    have hb : Below w.heap.size w (wr.alloc (.cells #[.int .u8 xv] 5)) := hO.below.alloc hO.below.size _
    have hb1 : Below w.heap.size w w1 := by
      refine hb.grown hgrow hb.size (fun k hk => ?_)
      obtain ⟨_, hv⟩ := hO.own
      rcases hv with ⟨h0, _⟩ | ⟨g', cap', cur, h0, hg, _⟩
      · cases h0
      · simp [Value.ownBlock] at hk
        simp at h0
        omega
    obtain ⟨g', cap', hv'⟩ : ∃ g' cap', v' = .slice (some ⟨g', 0, none⟩) (L + 1) cap' := by
      obtain ⟨_, hv⟩ := hown'
      rcases hv with ⟨_, h0⟩ | ⟨g', cap', cur, h0, _⟩
      · omega
      · exact ⟨g', cap', h0⟩
    subst hv'
    refine h g' cap' w1 ⟨by simp [hO.len], ?_, hb1⟩
    rw [List.map_append]
    exact hown'

theorem Out.src {w wr : World} {g L cap : Nat} {acc : List Int} (h : Out w wr g L cap acc) (hl : L ≤ 4194304) (hr : ∀ z ∈ acc, 0 ≤ z ∧ z ≤ 255) : Src wr.heap.size wr (some ⟨g, 0, none⟩) L cap acc := by
  refine ⟨h.len, hl, hr, ?_⟩
  by_cases h0 : L = 0
  · exact .inl h0
  · have hc : ∀ i, i < L → wr.cell? ⟨g, 0 + i, none⟩ = some (.int .u8 (acc[i]?.getD 0)) := fun i hi => by
      have hi' : i < acc.length := by rw [h.len]; exact hi
      rw [Nat.zero_add, h.own.cellAt i (by omega)]
      simp [List.getElem?_eq_getElem hi']
    have hle : L ≤ cap := by
      obtain ⟨_, hv⟩ := h.own
      rcases hv with ⟨_, h1⟩ | ⟨g', cap', cur, hv, _, _, hle, _⟩
      · omega
      · simp at hv
        omega
    exact .inr ⟨g, 0, rfl, World.block_lt_of_cell? wr ⟨g, 0 + 0, none⟩ (hc 0 (by omega)), hle, hc⟩

end Go.Proofs.Qxb6600865a
