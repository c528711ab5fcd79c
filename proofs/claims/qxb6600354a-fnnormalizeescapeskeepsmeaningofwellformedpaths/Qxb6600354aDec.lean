/-
  THE WALK of b1PctDecode (seat b6600354a).
-/
import Derived.Test.Qxb6600354aWell
import Derived.Laws.IdiomStrings
import Derived.Laws.BytesArg
namespace Go.Proofs.Qxb6600354a
open Go.RowKit
set_option linter.unusedVariables false

theorem Try.info5 : (Try.prog.info? 5).map (fun i => (i.zero, i.size, i.bytes)) = some (some (.int .u8 0), 1, 1) := by kernel_rfl

/-- The slice of bytes that the call is filling. -/
structure Out (w wr : World) (v : Value) (acc : List UInt8) : Prop where
  own : wr.ownsRow w.heap.size 5 1 v acc.length (Lib.byteCells acc)
  below : Below w.heap.size w wr

theorem Out.text {w wr : World} {v : Value} {acc : List UInt8} (h : Out w wr v acc) : (convert 26 9 v).run Try.prog wr = .ok (.string ⟨acc.toArray⟩) wr := by
  obtain ⟨hl, hv⟩ := h.own
  rcases hv with ⟨rfl, h0⟩ | ⟨g, cap, cur, rfl, hg, hh, hn, hm, hc, ht⟩
  · have : acc = [] := List.length_eq_zero_iff.1 h0
    subst this
    rw [run_convert_bytes_nil wr 26 5 Try.underlying26 Try.underlying5 0 0 9 Try.underlying9]
    rfl
  · refine run_convert_bytes_back wr 26 9 5 ⟨g, 0, none⟩ cap acc Try.underlying26 Try.underlying5 Try.underlying9 (fun j hj => ?_)
    have hc := h.own.cellAt (g := g) (cap := cap) j (by omega)
    have e : (⟨g, 0, none⟩ : Addr).add j = ⟨g, j, none⟩ := by unfold Addr.add; split <;> simp_all
    rw [e, hc]
    simp [Lib.byteCells, List.getElem?_eq_getElem hj]

theorem append_byte {ops : Array Oper} {rest : List Oper} {o : Oper} {a : Act} {Q : Exit → Act → World → Prop} (w wr : World) (v : Value) (acc : List UInt8) (c : UInt8) (xv : Int) (hO : Out w wr v acc) (hgd : o.guard = none) (s x : Operand)
    (ho : o.op = .call { callee := .builtin .append, args := #[s, x], argTypes := #[26, 26] }) (hs : a.eval s = v) (hx : a.eval x = .slice (some ⟨wr.heap.size, 0, none⟩) 1 1) (hl : acc.length ≤ 4194304) (hxv : xv = (c.toNat : Int))
    (h : ∀ v' w', Hid (Out w w' v' (acc ++ [c])) → wpList Try.prog ops Q rest (a.put o.dst v') w') : wpList Try.prog ops Q (o :: rest) a (wr.alloc (.cells #[.int .u8 xv] 5)) := by
  obtain ⟨i0, hi, hz0, hz1, hz2⟩ := info_parts Try.info5
  subst hxv
  refine wpList_append_own _ hgd s x 26 ho w.heap.size 5 i0 (.int .u8 0) 1 1 Try.underlying26 hi hz0 hz1 hz2 rfl (by decide) v acc.length (Lib.byteCells acc) hs (hO.own.alloc _) ⟨wr.heap.size, 0, none⟩ 1 1 [.int .u8 c.toNat] hx rfl ?_ ?_ (by unfold maxLen; omega) (by omega) ?_ ?_
  · intro j u hj
    match j, hj with
    | 0, hj => simp at hj; subst hj; simp [Addr.add]
  · intro u hu; simp at hu; subst hu; rfl
  · have := hO.below.size; simp; omega
  · intro v' w1 hown' hgrow _
    have hb : Below w.heap.size w (wr.alloc (.cells #[.int .u8 c.toNat] 5)) := hO.below.alloc hO.below.size _
    refine h v' w1 ⟨?_, ?_⟩
    · have e1 : (acc ++ [c]).length = acc.length + 1 := by simp
      have e2 : Lib.byteCells (acc ++ [c]) = Lib.byteCells acc ++ [.int .u8 c.toNat] := by simp [Lib.byteCells]
      rw [e1, e2]
      exact hown'
    · refine hb.grown hgrow hb.size (fun k hk => ?_)
      obtain ⟨_, hv⟩ := hO.own
      rcases hv with ⟨rfl, _⟩ | ⟨g, cap, cur, rfl, hg, _⟩
      · simp [Value.ownBlock] at hk
      · simp [Value.ownBlock] at hk
        omega

theorem dec_plain_at (s : ByteArray) (k : Nat) (h : k < s.size) (he : Pl.esc (s.data.toList.drop k) = false) (acc R : List UInt8) (hA : acc ++ Pl.dec (s.data.toList.drop k) = R) :
    (acc ++ [s[k]]) ++ Pl.dec (s.data.toList.drop (k + 1)) = R := by
  rw [drop_at s k h] at hA he
  rw [Pl.dec_plain _ _ he] at hA
  rw [← hA]
  simp

theorem dec_esc_at (s : ByteArray) (k : Nat) (h : k + 2 < s.size) (h37 : s[k] = 37) (ha : Pl.hexB s[k + 1] = true) (hb : Pl.hexB s[k + 2] = true) (acc R : List UInt8) (hA : acc ++ Pl.dec (s.data.toList.drop k) = R) :
    (acc ++ [Pl.vl s[k + 1] s[k + 2]]) ++ Pl.dec (s.data.toList.drop (k + 3)) = R := by
  rw [drop3 s k h, h37, Pl.dec_esc _ _ _ ha hb] at hA
  rw [← hA]; simp

theorem vl_nat (a b : UInt8) (ha : Pl.hexB a = true) (hb : Pl.hexB b = true) : (Pl.hv a : Int) * 16 + (Pl.hv b : Int) = ((Pl.vl a b).toNat : Int) := by
  have h1 := hv_lt a ha
  have h2 := hv_lt b hb
  unfold Pl.vl
  simp
  omega

set_option maxHeartbeats 1000000 in
theorem decode_any (s : ByteArray) (w : World) (hs : s.size ≤ 1048576) :
    Calls Try.prog 8 #[.string s] w fun e w' => e = .returned (.string ⟨(Pl.dec s.data.toList).toArray⟩) ∧ Below w.heap.size w w' := by
  obtain ⟨i0, hi, hz0, hz1, hz2⟩ := info_parts Try.info5
  generalize hR : Pl.dec s.data.toList = R
  have HR : Hid ([] ++ Pl.dec (s.data.toList.drop 0) = R) := by simpa [Hid] using hR
  clear hR
  go_enter Try.func8, Try.ntmps8
  go_wp2_with (at_make; refine wpList_make_own _ rfl _ _ 26 rfl w.heap.size 5 i0 (.int .u8 0) 1 Try.underlying26 hi hz0 hz1 .i64 .i64 _ s.size rfl rfl rfl (by rw [hz2]; omega) (by unfold maxLen; omega) (Nat.le_refl _) ?_; intro w1 hown hgrow)
  have HO : Hid (Out w w1 (.slice (some ⟨w.heap.size, 0, none⟩) 0 s.size) []) := ⟨hown, (Below.refl _ _).grown hgrow (Nat.le_refl _) (fun k h => by cases h)⟩
  clear hown hgrow
  go_loopw [3, 4] (fun v i wr => ∃ (k : Nat) (acc : List UInt8), k ≤ s.size ∧ acc.length ≤ k ∧ i = .int .i64 k ∧ Hid (Out w wr v acc) ∧ Hid (acc ++ Pl.dec (s.data.toList.drop k) = R)) (fun _ i _ => s.size - (intOf i).toNat)
  case atStart => exact ⟨0, [], Nat.zero_le _, Nat.le_refl _, rfl, HO, HR⟩
  case round =>
    clear HO HR
    obtain ⟨k, acc, hk, hac, rfl, HO, HA⟩ := hrel
    have hal : acc.length ≤ 4194304 := by omega
    by_cases hlt : k < s.size
    · by_cases hc : s[k] = 37
      · have hb : ((s[k].toNat : Int) == 37) = true := by rw [hc]; rfl
        have HC := hid hc
        clear hc
        by_cases h2 : k + 2 < s.size
        · have h1 : k + 1 < s.size := by omega
          by_cases ha : Pl.hexB s[k + 1] = true
          · by_cases hbb : Pl.hexB s[k + 2] = true
            · have HN := hid (dec_esc_at s k h2 HC.out ha hbb acc R HA.out)
              have HX := hid (vl_nat _ _ ha hbb)
              have hv1 := hv_lt _ ha
              have hv2 := hv_lt _ hbb
              have HHa := hid ha
              have HHb := hid hbb
              clear ha hbb
              go_wp2_with fail
              refine (hexval_yes _ _ HHa).mono ?_
              rintro e w' ⟨rfl, hw⟩
              subst w'
              go_wp2_with fail
              refine (hexval_yes _ _ HHb).mono ?_
              rintro e w' ⟨rfl, hw⟩
              subst w'
              go_wp2_with (at_builtin; refine append_byte w wr _ acc (Pl.vl s[k + 1] s[k + 2]) _ HO.out rfl _ _ rfl rfl rfl hal HX.out ?_; intro v' w1 HO1)
              go_roundw
              case rel => exact ⟨k + 3, acc ++ [Pl.vl s[k + 1] s[k + 2]], by omega, by simp; omega, by go_num, HO1, HN⟩
              case measure => simp [intOf]; omega
            · have hbb' : Pl.hexB s[k + 2] = false := by simpa using hbb
              have HN := hid (dec_plain_at s k hlt (by rw [drop3 s k h2]; simp [Pl.esc, hbb']) acc R HA.out)
              have HHa := hid ha
              have HHb := hid hbb'
              clear ha hbb hbb'
              go_wp2_with fail
              refine (hexval_yes _ _ HHa).mono ?_
              rintro e w' ⟨rfl, hw⟩
              subst w'
              go_wp2_with fail
              refine (hexval_no _ _ HHb).mono ?_
              rintro e w' ⟨rfl, hw⟩
              subst w'
              go_wp2_with (at_builtin; refine append_byte w wr _ acc s[k] _ HO.out rfl _ _ rfl rfl rfl hal rfl ?_; intro v' w1 HO1)
              go_roundw
              case rel => exact ⟨k + 1, acc ++ [s[k]], by omega, by simp; omega, by go_num, HO1, HN⟩
              case measure => simp [intOf]; omega
          · have ha' : Pl.hexB s[k + 1] = false := by simpa using ha
            have HN := hid (dec_plain_at s k hlt (by rw [drop3 s k h2]; simp [Pl.esc, ha']) acc R HA.out)
            have HHa := hid ha'
            clear ha ha'
            by_cases hbb : Pl.hexB s[k + 2] = true
            · have HHb := hid hbb
              clear hbb
              go_wp2_with fail
              refine (hexval_no _ _ HHa).mono ?_
              rintro e w' ⟨rfl, hw⟩
              subst w'
              go_wp2_with fail
              refine (hexval_yes _ _ HHb).mono ?_
              rintro e w' ⟨rfl, hw⟩
              subst w'
              go_wp2_with (at_builtin; refine append_byte w wr _ acc s[k] _ HO.out rfl _ _ rfl rfl rfl hal rfl ?_; intro v' w1 HO1)
              go_roundw
              case rel => exact ⟨k + 1, acc ++ [s[k]], by omega, by simp; omega, by go_num, HO1, HN⟩
              case measure => simp [intOf]; omega
            · have hbb' : Pl.hexB s[k + 2] = false := by simpa using hbb
              have HHb := hid hbb'
              clear hbb hbb'
              go_wp2_with fail
              refine (hexval_no _ _ HHa).mono ?_
              rintro e w' ⟨rfl, hw⟩
              subst w'
              go_wp2_with fail
              refine (hexval_no _ _ HHb).mono ?_
              rintro e w' ⟨rfl, hw⟩
              subst w'
              go_wp2_with (at_builtin; refine append_byte w wr _ acc s[k] _ HO.out rfl _ _ rfl rfl rfl hal rfl ?_; intro v' w1 HO1)
              go_roundw
              case rel => exact ⟨k + 1, acc ++ [s[k]], by omega, by simp; omega, by go_num, HO1, HN⟩
              case measure => simp [intOf]; omega
        · have HN := hid (dec_plain_at s k hlt (esc_short s k h2) acc R HA.out)
          go_wp2_with (at_builtin; refine append_byte w wr _ acc s[k] _ HO.out rfl _ _ rfl rfl rfl hal rfl ?_; intro v' w1 HO1)
          go_roundw
          case rel => exact ⟨k + 1, acc ++ [s[k]], by omega, by simp; omega, by go_num, HO1, HN⟩
          case measure => simp [intOf]; omega
      · have hb : ((s[k].toNat : Int) == 37) = false := by
          rw [beq_eq_false_iff_ne]
          intro e
          apply hc
          apply UInt8.toNat_inj.1
          have : s[k].toNat = 37 := by omega
          rw [this]; rfl
        have HN := hid (dec_plain_at s k hlt (by rw [drop_at s k hlt]; exact Pl.esc_ne _ _ hc) acc R HA.out)
        clear hc
        go_wp2_with (at_builtin; refine append_byte w wr _ acc s[k] _ HO.out rfl _ _ rfl rfl rfl hal rfl ?_; intro v' w1 HO1)
        go_roundw
        case rel => exact ⟨k + 1, acc ++ [s[k]], by omega, by simp; omega, by go_num, HO1, HN⟩
        case measure => simp [intOf]; omega
    · obtain rfl : k = s.size := by omega
      have HF : Hid (acc = R) := by
        have := HA.out
        rw [List.drop_eq_nil_of_le (by simp)] at this
        simpa [Hid, Pl.dec] using this
      have hcv := HO.out.text
      go_wp2
      go_ret
      exact ⟨ret_str HF.out, HO.out.below⟩

end Go.Proofs.Qxb6600354a
