/-
  THE WALK of normalizeEscapes (seat b6600354a).
-/
import Derived.Test.Qxb6600354aMore
import Derived.Test.Qxb6600354aShelf
import Derived.Lib.IndexLaws
namespace Go.Proofs.Qxb6600354a
open Go.RowKit
set_option linter.unusedVariables false

theorem drop_at (s : ByteArray) (k : Nat) (h : k < s.size) : s.data.toList.drop k = s[k] :: s.data.toList.drop (k + 1) := by
  rw [List.drop_eq_getElem_cons (by simpa using h)]; rfl

theorem index_run (s : ByteArray) (k d : Nat) (h : k + d < s.size) (w : World) :
    (Instr.index 9 (.string s) (.int .i64 ((k : Int) + (d : Int)))).run Try.prog w = .ok (.int .u8 (s[k + d].toNat : Int)) w := by
  rw [run_index_string w 9 s .i64 _ Try.underlying9, dif_pos (by omega)]
  congr 4

theorem or_fin : ∀ x y : Fin 16, bits BinOp.or IntKind.u8 ((x.val : Int) * 16 % 256) (y.val : Int) = (x.val : Int) * 16 + (y.val : Int) := by decide

theorem hv_lt (a : UInt8) (h : Pl.hexB a = true) : Pl.hv a < 16 := by
  simp only [Pl.hexB, Bool.or_eq_true, Bool.and_eq_true, decide_eq_true_eq] at h
  unfold Pl.hv
  repeat' split
  all_goals omega

theorem hex_or (a b : UInt8) (ha : Pl.hexB a = true) (hb : Pl.hexB b = true) : bits BinOp.or IntKind.u8 ((Pl.hv a : Int) * 16 % 256) (Pl.hv b : Int) = ((Pl.vl a b).toNat : Int) := by
  have h1 := hv_lt a ha
  have h2 := hv_lt b hb
  have e := or_fin ⟨Pl.hv a, h1⟩ ⟨Pl.hv b, h2⟩
  simp only at e
  rw [e]
  unfold Pl.vl
  simp
  omega

theorem write_byte (x : Int) (c : UInt8) (acc : List UInt8) (w wr : World) (h : Hid (Lib.IsBuilder 29 5 w.heap.size w.heap.size (Lib.byteCells acc) wr)) (hB : Hid (Below w.heap.size w wr)) (hlen : acc.length ≤ 4194304) (hx : x = (c.toNat : Int)) :
    Calls Try.prog 16 #[.pointer (some ⟨w.heap.size, 0, none⟩), .int .u8 x] wr fun e w' => e = .returned .nilIface ∧ Hid (Lib.IsBuilder 29 5 w.heap.size w.heap.size (Lib.byteCells (acc ++ [c])) w') ∧ Hid (Below w.heap.size w w') := by
  subst hx
  refine (Try.Builder_WriteByte w.heap.size w.heap.size (Lib.byteCells acc) c.toNat wr h.out (by rw [Lib.byteCells_length]; omega) hB.out.size).mono ?_
  rintro e w' ⟨rfl, h1, h2⟩
  refine ⟨rfl, ?_, hB.out.trans h2⟩
  have e : Lib.byteCells (acc ++ [c]) = Lib.byteCells acc ++ [.int .u8 c.toNat] := by simp [Lib.byteCells]
  rw [e]
  exact .inr h1

theorem drop3 (s : ByteArray) (k : Nat) (h : k + 2 < s.size) : s.data.toList.drop k = s[k] :: s[k + 1] :: s[k + 2] :: s.data.toList.drop (k + 3) := by
  rw [drop_at s k (by omega), drop_at s (k + 1) (by omega), drop_at s (k + 2) h]

theorem esc_short (s : ByteArray) (k : Nat) (h : ¬ k + 2 < s.size) : Pl.esc (s.data.toList.drop k) = false := by
  have hl : (s.data.toList.drop k).length = s.size - k := by simp
  match hd : s.data.toList.drop k with
  | [] => rfl
  | [_] => rfl
  | [_, _] => rfl
  | _ :: _ :: _ :: _ => rw [hd] at hl; simp at hl; omega

theorem step_plain (s : ByteArray) (k : Nat) (h : k < s.size) (he : Pl.esc (s.data.toList.drop k) = false) (acc R : List UInt8) (hA : acc ++ Pl.norm (s.data.toList.drop k) = R) :
    (acc ++ [s[k]]) ++ Pl.norm (s.data.toList.drop (k + 1)) = R := by
  rw [drop_at s k h] at hA he
  rw [Pl.norm_plain _ _ he] at hA
  rw [← hA]
  simp

theorem step_esc (s : ByteArray) (k : Nat) (h : k + 2 < s.size) (h37 : s[k] = 37) (ha : Pl.hexB s[k + 1] = true) (hb : Pl.hexB s[k + 2] = true) (acc R : List UInt8) (hA : acc ++ Pl.norm (s.data.toList.drop k) = R) :
    (Pl.unres (Pl.vl s[k + 1] s[k + 2]) = true → (acc ++ [Pl.vl s[k + 1] s[k + 2]]) ++ Pl.norm (s.data.toList.drop (k + 3)) = R) ∧
    (Pl.unres (Pl.vl s[k + 1] s[k + 2]) = false → (acc ++ [37] ++ [Pl.up s[k + 1]] ++ [Pl.up s[k + 2]]) ++ Pl.norm (s.data.toList.drop (k + 3)) = R) := by
  rw [drop3 s k h, h37, Pl.norm_esc _ _ _ ha hb] at hA
  refine ⟨fun hu => ?_, fun hu => ?_⟩
  · rw [if_pos hu] at hA
    rw [← hA]; simp
  · rw [if_neg (by rw [hu]; simp)] at hA
    rw [← hA]; simp

theorem ret_str {a b : List UInt8} (h : a = b) : Ending.returned (.string ⟨a.toArray⟩) = .returned (.string ⟨b.toArray⟩) := by rw [h]

set_option maxHeartbeats 1000000 in
theorem normalize_pct (s : ByteArray) (w : World) (hs : s.size ≤ 1048576) (hp : Hid (0 ≤ Lib.indexByte s.data.toList 37)) :
    Calls Try.prog 12 #[.string s] w fun e w' => e = .returned (.string ⟨(Pl.norm s.data.toList).toArray⟩) ∧ Below w.heap.size w w' := by
  have hI := Try.strings_IndexByte s 37 w
  have e37 : (37 : Int).toNat.toUInt8 = (37 : UInt8) := rfl
  rw [e37] at hI
  have hp' := hp.out
  generalize Lib.indexByte s.data.toList 37 = m at hI hp'
  have HI := hid hI
  clear hI hp e37
  generalize hR : Pl.norm s.data.toList = R
  have HR : Hid ([] ++ Pl.norm (s.data.toList.drop 0) = R) := by simpa [Hid] using hR
  clear hR
  go_enter Try.func12, Try.ntmps12
  go_wp2_with fail
  refine HI.out.mono ?_
  rintro e w' ⟨rfl, hw⟩
  subst w'
  go_wp2_with fail
  refine (Try.Builder_Grow_fresh w.heap.size w.heap.size s.size _ (Nat.le_refl _) (heap_alloc_new w _) (by simp) (by omega)).mono ?_
  rintro e w1 ⟨rfl, hB1, hb1⟩
  have HB1 : Hid (Lib.IsBuilder 29 5 w.heap.size w.heap.size (Lib.byteCells []) w1) := .inr hB1
  have Hb1 : Hid (Below w.heap.size w w1) := ((Below.refl _ _).alloc (Nat.le_refl _) _).trans hb1
  clear hB1 hb1 HI
  go_wp2_with fail
  go_loopw [4] (fun i wr => ∃ (k : Nat) (acc : List UInt8), k ≤ s.size ∧ acc.length ≤ k ∧ i = .int .i64 k ∧ Hid (Lib.IsBuilder 29 5 w.heap.size w.heap.size (Lib.byteCells acc) wr) ∧ Hid (Below w.heap.size w wr) ∧ Hid (acc ++ Pl.norm (s.data.toList.drop k) = R)) (fun i _ => s.size - (intOf i).toNat)
  case atStart => exact ⟨0, [], Nat.zero_le _, Nat.le_refl _, rfl, HB1, Hb1, HR⟩
  case round =>
    clear HB1 Hb1 HR
    obtain ⟨k, acc, hk, hac, rfl, HB, Hb, HA⟩ := hrel
    by_cases hlt : k < s.size
    · by_cases hc : s[k] = 37
      · have hb : ((s[k].toNat : Int) != 37) = false := by rw [hc]; rfl
        have HC := hid hc
        clear hc
        by_cases h2 : k + 2 < s.size
        · have h1 : k + 1 < s.size := by omega
          have hd : decide ((s.size : Int) ≤ (k : Int) + 2) = false := by simp; omega
          by_cases ha : Pl.hexB s[k + 1] = true
          · by_cases hbb : Pl.hexB s[k + 2] = true
            · have HHa := hid ha
              have HHb := hid hbb
              have HS := hid (step_esc s k h2 HC.out ha hbb acc R HA.out)
              clear ha hbb
              have hUa := fun nq => unhex_v s[k + 1] (wr.drewN nq) HHa
              have hUb := fun nq => unhex_v s[k + 2] (wr.drewN nq) HHb
              have HUa := hid hUa
              have HUb := hid hUb
              clear hUa hUb
              have HO := hid (hex_or _ _ HHa.out HHb.out)
              go_wp2_with fail
              refine (isHex_v _ true _ HHa).mono ?_
              rintro e w' ⟨rfl, hw⟩
              subst w'
              go_wp2_with fail
              refine (isHex_v _ true _ HHb).mono ?_
              rintro e w' ⟨rfl, hw⟩
              subst w'
              go_wp2_with fail
              have q1 : ∀ nq, (Instr.index 9 (.string s) (.int .i64 ((k : Int) + 1))).run Try.prog (wr.drewN nq) = .ok (.int .u8 (s[k + 1].toNat : Int)) (wr.drewN nq) := fun nq => index_run s k 1 h1 (wr.drewN nq)
              have q2 : ∀ nq, (Instr.index 9 (.string s) (.int .i64 ((k : Int) + 2))).run Try.prog (wr.drewN nq) = .ok (.int .u8 (s[k + 2].toNat : Int)) (wr.drewN nq) := fun nq => index_run s k 2 h2 (wr.drewN nq)
              refine wp_region_quiet_lit (by kernel_rfl) (by kernel_rfl) ?_
              iterate 4 (go_big_quiet_step (fail))
              go_big_quiet_step ((exact Calls.quiet_of_same (HUa.out _)))
              iterate 5 (go_big_quiet_step (fail))
              go_big_quiet_step ((exact Calls.quiet_of_same (HUb.out _)))
              iterate 2 (go_big_quiet_step (fail))
              refine wpQuiet_nil ?_
              intro _ hw'
              obtain ⟨nq, hw''⟩ := hw'
              subst hw''
              clear q1 q2 HUa HUb
              rw [HO.out]
              have HB0 : Hid (Lib.IsBuilder 29 5 w.heap.size w.heap.size (Lib.byteCells acc) (wr.drewN nq)) := HB.out
              have Hb0 : Hid (Below w.heap.size w (wr.drewN nq)) := below_drewN Hb.out nq
              clear HB Hb
              by_cases hu : Pl.unres (Pl.vl s[k + 1] s[k + 2]) = true
              · have HN := hid (HS.out.1 hu)
                have HU := hid hu
                clear hu HS
                go_wp2_with fail
                refine (unres_v _ true _ HU).mono ?_
                rintro e w' ⟨rfl, hw⟩
                subst w'
                go_wp2_with fail
                refine (write_byte _ (Pl.vl s[k + 1] s[k + 2]) acc w _ HB0 Hb0 (by omega) rfl).mono ?_
                rintro e w2 ⟨rfl, HB2, Hb2⟩
                clear HB0 Hb0
                go_wp2_with fail
                go_roundw
                case rel => exact ⟨k + 3, acc ++ [Pl.vl s[k + 1] s[k + 2]], by omega, by simp; omega, by go_num, HB2, Hb2, HN⟩
                case measure => simp [intOf]; omega
              · have hu' : Pl.unres (Pl.vl s[k + 1] s[k + 2]) = false := by simpa using hu
                have HN := hid (HS.out.2 hu')
                have HU := hid hu'
                clear hu hu' HS
                go_wp2_with fail
                refine (unres_v _ false _ HU).mono ?_
                rintro e w' ⟨rfl, hw⟩
                subst w'
                go_wp2_with fail
                refine (write_byte _ 37 acc w _ HB0 Hb0 (by omega) rfl).mono ?_
                rintro e w2 ⟨rfl, HB2, Hb2⟩
                clear HB0 Hb0
                go_wp2_with fail
                refine (upper_v _ _).mono ?_
                rintro e w' ⟨rfl, hw⟩
                subst w'
                go_wp2_with fail
                refine (write_byte _ (Pl.up s[k + 1]) (acc ++ [37]) w _ HB2 Hb2 (by simp; omega) rfl).mono ?_
                rintro e w3 ⟨rfl, HB3, Hb3⟩
                clear HB2 Hb2
                go_wp2_with fail
                refine (upper_v _ _).mono ?_
                rintro e w' ⟨rfl, hw⟩
                subst w'
                go_wp2_with fail
                refine (write_byte _ (Pl.up s[k + 2]) (acc ++ [37] ++ [Pl.up s[k + 1]]) w _ HB3 Hb3 (by simp; omega) rfl).mono ?_
                rintro e w4 ⟨rfl, HB4, Hb4⟩
                clear HB3 Hb3
                go_wp2_with fail
                go_roundw
                case rel => exact ⟨k + 3, acc ++ [37] ++ [Pl.up s[k + 1]] ++ [Pl.up s[k + 2]], by omega, by simp; omega, by go_num, HB4, Hb4, HN⟩
                case measure => simp [intOf]; omega
            · have hbb' : Pl.hexB s[k + 2] = false := by simpa using hbb
              have HHa := hid ha
              have HHb := hid hbb'
              have HN := hid (step_plain s k hlt (by rw [drop3 s k h2]; simp [Pl.esc, hbb']) acc R HA.out)
              clear ha hbb hbb'
              go_wp2_with fail
              refine (isHex_v _ true _ HHa).mono ?_
              rintro e w' ⟨rfl, hw⟩
              subst w'
              go_wp2_with fail
              refine (isHex_v _ false _ HHb).mono ?_
              rintro e w' ⟨rfl, hw⟩
              subst w'
              go_wp2_with fail
              refine (write_byte _ s[k] acc w _ HB Hb (by omega) rfl).mono ?_
              rintro e w2 ⟨rfl, HB2, Hb2⟩
              clear HB Hb
              go_wp2_with fail
              go_roundw
              case rel => exact ⟨k + 1, acc ++ [s[k]], by omega, by simp; omega, by go_num, HB2, Hb2, HN⟩
              case measure => simp [intOf]; omega
          · have ha' : Pl.hexB s[k + 1] = false := by simpa using ha
            have HHa := hid ha'
            have HN := hid (step_plain s k hlt (by rw [drop3 s k h2]; simp [Pl.esc, ha']) acc R HA.out)
            clear ha ha'
            go_wp2_with fail
            refine (isHex_v _ false _ HHa).mono ?_
            rintro e w' ⟨rfl, hw⟩
            subst w'
            go_wp2_with fail
            refine (write_byte _ s[k] acc w _ HB Hb (by omega) rfl).mono ?_
            rintro e w2 ⟨rfl, HB2, Hb2⟩
            clear HB Hb
            go_wp2_with fail
            go_roundw
            case rel => exact ⟨k + 1, acc ++ [s[k]], by omega, by simp; omega, by go_num, HB2, Hb2, HN⟩
            case measure => simp [intOf]; omega
        · have hd : decide ((s.size : Int) ≤ (k : Int) + 2) = true := by simp; omega
          have HN := hid (step_plain s k hlt (esc_short s k h2) acc R HA.out)
          go_wp2_with fail
          refine (write_byte _ s[k] acc w _ HB Hb (by omega) rfl).mono ?_
          rintro e w2 ⟨rfl, HB2, Hb2⟩
          clear HB Hb
          go_wp2_with fail
          go_roundw
          case rel => exact ⟨k + 1, acc ++ [s[k]], by omega, by simp; omega, by go_num, HB2, Hb2, HN⟩
          case measure => simp [intOf]; omega
      · have hb : ((s[k].toNat : Int) != 37) = true := by
          rw [bne_iff_ne]
          intro e
          apply hc
          apply UInt8.toNat_inj.1
          have : s[k].toNat = 37 := by omega
          rw [this]; rfl
        have HN := hid (step_plain s k hlt (by rw [drop_at s k hlt]; exact Pl.esc_ne _ _ hc) acc R HA.out)
        clear hc
        go_wp2_with fail
        refine (write_byte _ s[k] acc w _ HB Hb (by omega) rfl).mono ?_
        rintro e w2 ⟨rfl, HB2, Hb2⟩
        clear HB Hb
        go_wp2_with fail
        go_roundw
        case rel => exact ⟨k + 1, acc ++ [s[k]], by omega, by simp; omega, by go_num, HB2, Hb2, HN⟩
        case measure => simp [intOf]; omega
    · obtain rfl : k = s.size := by omega
      have HF : Hid (acc = R) := by
        have := HA.out
        rw [List.drop_eq_nil_of_le (by simp)] at this
        simpa [Hid, Pl.norm] using this
      go_wp2_with fail
      refine (Try.Builder_String_any w.heap.size w.heap.size acc _ HB.out Hb.out.size).mono ?_
      rintro e w2 ⟨rfl, hb2⟩
      have Hb2 := hid (Hb.out.trans hb2)
      clear HB Hb hb2
      go_wp2_with fail
      go_ret
      exact ⟨ret_str HF.out, Hb2.out⟩

end Go.Proofs.Qxb6600354a
