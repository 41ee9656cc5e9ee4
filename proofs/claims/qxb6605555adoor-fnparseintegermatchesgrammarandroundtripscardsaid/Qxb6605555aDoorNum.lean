import Derived.Test.Qxb6605555aDoorNumP
import Derived.WalkKit
import Derived.Below
import Derived.Deep.CutRange
import Derived.Deep.CutBlock
import Derived.Outline
namespace Go.Proofs.Qxb6605555aDoor
open Go.RowKit

theorem ret_bool' {a b : Bool} (h : a = b) : Ending.returned (.bool a) = .returned (.bool b) := by rw [h]

theorem int_beq (i n : Nat) : ((i : Int) == (n : Int)) = (i == n) := by
  rw [Bool.eq_iff_iff]; simp; omega

set_option maxRecDepth 100000 in
set_option maxHeartbeats 4000000 in
theorem number_any (b off n c : Nat) (z : Nat → Int) (w : World) (hn : n ≤ 1048577) (hn0 : 0 < n) (hb : b < w.heap.size)
    (hc : ∀ j, j < n → w.cell? ⟨b, off + j, none⟩ = some (.int .u8 (z j))) :
    Calls Tryd.prog 20 #[.slice (some ⟨b, off, none⟩) n c] w fun e w' => e = .returned (.bool (numB (zl z n))) ∧ w' = w.alloc (.cells #[.slice (some ⟨b, off, none⟩) n c] 22) := by
  have h0 := hc 0 hn0
  rw [Nat.add_zero] at h0
  have HC : Hid (∀ j, j < n → (w.alloc (.cells #[.slice (some ⟨b, off, none⟩) n c] 22)).cell? ⟨b, off + j, none⟩ = some (.int .u8 (z j))) := fun j hj => (((Below.refl w.heap.size w).alloc (Nat.le_refl _) _).cell (p := ⟨b, off + j, none⟩) hb).trans (hc j hj)
  have HB : Hid ((w.alloc (.cells #[.slice (some ⟨b, off, none⟩) n c] 22)).cell? ⟨w.heap.size, 0, none⟩ = some (.slice (some ⟨b, off, none⟩) n c)) := by show _ = _; simp
  have HP := num_plain z n hn0
  have HM := num_minus z n hn0
  have HPM : Hid ((z 0 = 45 → numB (zl z n) = intB ((zl z n).drop 1)) ∧ (¬ z 0 = 45 → numB (zl z n) = intB ((zl z n).drop 0))) := ⟨HM, HP⟩
  clear HP HM
  generalize numB (zl z n) = R at HPM ⊢
  go_enter Tryd.func20, Tryd.ntmps20
  go_upto_if 11 with (fail)
  go_cut [4] from 7 (fun t wr => ∃ i : Nat, t = .int .i64 i ∧ i ≤ n ∧ Hid (R = intB ((zl z n).drop i)) ∧ wr = w.alloc (.cells #[.slice (some ⟨b, off, none⟩) n c] 22))
  case first =>
    by_cases hm : z 0 = 45
    · go_wp2
      go_meet
      case rel => exact ⟨1, rfl, by omega, HPM.out.1 hm, rfl⟩
    · have hmb : (z 0 == 45) = false := beq_eq_false_iff_ne.2 hm
      go_wp2
      go_meet
      case rel => exact ⟨0, rfl, by omega, HPM.out.2 hm, rfl⟩
  case rest =>
    obtain ⟨i, rfl, hi, HR, rfl⟩ := hcut
    clear h0 HPM
    go_upto_block 0 with (fail)
    go_cut [4] from 7 (fun t wr => ∃ i : Nat, t = .int .i64 i ∧ 1 ≤ i ∧ i ≤ n ∧ Hid (R = fracB ((zl z n).drop i)) ∧ wr = w.alloc (.cells #[.slice (some ⟨b, off, none⟩) n c] 22))
    case first =>
      by_cases hlt : i < n
      · have hci := hc i hlt
        by_cases h48 : z i = 48
        · have HF : Hid (R = fracB ((zl z n).drop (i + 1))) := by show _ = _; rw [HR.out]; exact int_zero z n i hlt h48
          have hb48 : (z i == 48) = true := beq_iff_eq.2 h48
          clear HR h48
          go_wp2
          go_meet
          case rel => exact ⟨i + 1, by go_num, by omega, by omega, HF, rfl⟩
        · have hb48 : (z i == 48) = false := beq_eq_false_iff_ne.2 h48
          by_cases h1 : 49 ≤ z i
          · by_cases h2 : z i ≤ 57
            · go_wp2_with fail
              refine (digits_any w.heap.size b off n c i z _ hn hi HB.out HC.out).mono ?_
              rintro e w' ⟨j, rfl, hij, hjn, hd, he, rfl⟩
              have HF : Hid (R = fracB ((zl z n).drop j)) := by show _ = _; rw [HR.out]; exact int_dig z n i j hlt h1 h2 hij hjn hd he
              have hj1 : 1 ≤ j := by
                rcases Nat.lt_or_eq_of_le hij with g | g
                · omega
                · subst g; have := he hlt; simp [digB] at this; omega
              clear hd he HR
              go_wp2
              go_meet
              case rel => exact ⟨j, rfl, hj1, hjn, HF, rfl⟩
            · have HF : Hid (R = false) := by show _ = _; rw [HR.out]; exact int_bad z n i hlt (by omega)
              clear HR
              go_wp2
              go_ret
              exact ⟨ret_bool' HF.out.symm, rfl⟩
          · have HF : Hid (R = false) := by show _ = _; rw [HR.out]; exact int_bad z n i hlt (by omega)
            clear HR
            go_wp2
            go_ret
            exact ⟨ret_bool' HF.out.symm, rfl⟩
      · have HF : Hid (R = false) := by show _ = _; rw [HR.out]; exact int_none z n i (by omega)
        clear HR
        go_wp2
        go_ret
        exact ⟨ret_bool' HF.out.symm, rfl⟩
    case rest =>
      obtain ⟨i, rfl, hi1, hi, HR, rfl⟩ := hcut
      go_upto_region 10 with (fail)
      go_cut [60] from 7 (fun t wr => ∃ d : Bool, t = .bool d ∧ Hid (d = true ↔ i < n ∧ z i = 46) ∧ wr = w.alloc (.cells #[.slice (some ⟨b, off, none⟩) n c] 22))
      case first =>
        by_cases hlt : i < n
        · have hci := hc i hlt
          by_cases h46 : z i = 46
          · have hb46 : (z i == 46) = true := beq_iff_eq.2 h46
            have HT : Hid (i < n ∧ z i = 46) := ⟨hlt, h46⟩
            clear h46
            go_wp2
            go_meet
            case rel => exact ⟨true, rfl, ⟨fun _ => HT.out, fun _ => rfl⟩, rfl⟩
          · have hb46 : (z i == 46) = false := beq_eq_false_iff_ne.2 h46
            have HT : Hid (¬ (i < n ∧ z i = 46)) := fun q => h46 q.2
            clear h46
            go_wp2
            go_meet
            case rel => exact ⟨false, rfl, ⟨(fun q => by cases q), fun q => absurd q HT.out⟩, rfl⟩
        · have HT : Hid (¬ (i < n ∧ z i = 46)) := fun q => hlt q.1
          go_wp2
          go_meet
          case rel => exact ⟨false, rfl, ⟨(fun q => by cases q), fun q => absurd q HT.out⟩, rfl⟩
      case rest =>
        obtain ⟨d, rfl, HD, rfl⟩ := hcut
        go_upto_if 60 with (fail)
        go_cut [4] from 7 (fun t wr => ∃ i : Nat, t = .int .i64 i ∧ i ≤ n ∧ Hid (R = expoB ((zl z n).drop i)) ∧ wr = w.alloc (.cells #[.slice (some ⟨b, off, none⟩) n c] 22))
        case first =>
          cases d with
          | false =>
            have HF : Hid (R = expoB ((zl z n).drop i)) := by show _ = _; rw [HR.out]; exact frac_skip z n i (fun q => by have := HD.out.2 q; cases this)
            clear HR HD
            go_wp2
            go_meet
            case rel => exact ⟨i, rfl, hi, HF, rfl⟩
          | true =>
            obtain ⟨hlt, h46⟩ := HD.out.1 rfl
            have H46 : Hid (z i = 46) := h46
            clear HD h46
            go_wp2_with fail
            refine (digits_any w.heap.size b off n c (i + 1) z _ hn (by omega) HB.out HC.out).mono ?_
            rintro e w' ⟨j, rfl, hij, hjn, hd, he, rfl⟩
            have hcj := hc (j - 1) (by omega)
            by_cases hj : j = i + 1
            · subst hj
              have HF : Hid (R = false) := by show _ = _; rw [HR.out]; exact frac_bad z n i hlt H46.out he
              have hci := hc i hlt
              have hbi : (z i == 46) = true := beq_iff_eq.2 H46.out
              clear HR hd he hcj
              go_wp2
              go_ret
              exact ⟨ret_bool' HF.out.symm, rfl⟩
            · have HF : Hid (R = expoB ((zl z n).drop j)) := by show _ = _; rw [HR.out]; exact frac_go z n i j hlt H46.out (by omega) hjn hd he
              have hdj := hd (j - 1) (by omega) (by omega)
              have hbj : (z (j - 1) == 46) = false := beq_eq_false_iff_ne.2 (by simp [digB] at hdj; omega)
              clear HR hd he hdj
              go_wp2
              go_meet
              case rel => exact ⟨j, rfl, hjn, HF, rfl⟩
        case rest =>
          obtain ⟨i, rfl, hi, HR, rfl⟩ := hcut
          go_upto_region 14 with (fail)
          go_cut [88] from 7 (fun t wr => ∃ d : Bool, t = .bool d ∧ Hid (d = true ↔ i < n ∧ (z i = 101 ∨ z i = 69)) ∧ wr = w.alloc (.cells #[.slice (some ⟨b, off, none⟩) n c] 22))
          case first =>
            by_cases hlt : i < n
            · have hci := hc i hlt
              by_cases h101 : z i = 101
              · have hb101 : (z i == 101) = true := beq_iff_eq.2 h101
                have HT : Hid (i < n ∧ (z i = 101 ∨ z i = 69)) := ⟨hlt, .inl h101⟩
                clear h101
                go_wp2
                go_meet
                case rel => exact ⟨true, rfl, ⟨fun _ => HT.out, fun _ => rfl⟩, rfl⟩
              · have hb101 : (z i == 101) = false := beq_eq_false_iff_ne.2 h101
                by_cases h69 : z i = 69
                · have hb69 : (z i == 69) = true := beq_iff_eq.2 h69
                  have HT : Hid (i < n ∧ (z i = 101 ∨ z i = 69)) := ⟨hlt, .inr h69⟩
                  clear h101 h69
                  go_wp2
                  go_meet
                  case rel => exact ⟨true, rfl, ⟨fun _ => HT.out, fun _ => rfl⟩, rfl⟩
                · have hb69 : (z i == 69) = false := beq_eq_false_iff_ne.2 h69
                  have HT : Hid (¬ (i < n ∧ (z i = 101 ∨ z i = 69))) := fun q => q.2.elim h101 h69
                  clear h101 h69
                  go_wp2
                  go_meet
                  case rel => exact ⟨false, rfl, ⟨(fun q => by cases q), fun q => absurd q HT.out⟩, rfl⟩
            · have HT : Hid (¬ (i < n ∧ (z i = 101 ∨ z i = 69))) := fun q => hlt q.1
              go_wp2
              go_meet
              case rel => exact ⟨false, rfl, ⟨(fun q => by cases q), fun q => absurd q HT.out⟩, rfl⟩
          case rest =>
            obtain ⟨d, rfl, HD, rfl⟩ := hcut
            cases d with
            | false =>
              have HF : Hid (R = (i == n)) := by show _ = _; rw [HR.out]; exact expo_skip z n i hi (fun q => by have := HD.out.2 q; cases this)
              clear HR HD
              go_wp2
              go_ret
              exact ⟨ret_bool' (by rw [HF.out]; exact int_beq i n), rfl⟩
            | true =>
              obtain ⟨hlt, hee⟩ := HD.out.1 rfl
              have HE : Hid (z i = 101 ∨ z i = 69) := hee
              clear HD hee
              go_upto_region 16 with (fail)
              go_cut [108] from 7 (fun t wr => ∃ d : Bool, t = .bool d ∧ Hid (d = true ↔ i + 1 < n ∧ (z (i + 1) = 43 ∨ z (i + 1) = 45)) ∧ wr = w.alloc (.cells #[.slice (some ⟨b, off, none⟩) n c] 22))
              case first =>
                by_cases hlt1 : i + 1 < n
                · have hci := hc (i + 1) hlt1
                  by_cases h43 : z (i + 1) = 43
                  · have hb43 : (z (i + 1) == 43) = true := beq_iff_eq.2 h43
                    have HT : Hid (i + 1 < n ∧ (z (i + 1) = 43 ∨ z (i + 1) = 45)) := ⟨hlt1, .inl h43⟩
                    clear h43
                    go_wp2
                    go_meet
                    case rel => exact ⟨true, rfl, ⟨fun _ => HT.out, fun _ => rfl⟩, rfl⟩
                  · have hb43 : (z (i + 1) == 43) = false := beq_eq_false_iff_ne.2 h43
                    by_cases h45 : z (i + 1) = 45
                    · have hb45 : (z (i + 1) == 45) = true := beq_iff_eq.2 h45
                      have HT : Hid (i + 1 < n ∧ (z (i + 1) = 43 ∨ z (i + 1) = 45)) := ⟨hlt1, .inr h45⟩
                      clear h43 h45
                      go_wp2
                      go_meet
                      case rel => exact ⟨true, rfl, ⟨fun _ => HT.out, fun _ => rfl⟩, rfl⟩
                    · have hb45 : (z (i + 1) == 45) = false := beq_eq_false_iff_ne.2 h45
                      have HT : Hid (¬ (i + 1 < n ∧ (z (i + 1) = 43 ∨ z (i + 1) = 45))) := fun q => q.2.elim h43 h45
                      clear h43 h45
                      go_wp2
                      go_meet
                      case rel => exact ⟨false, rfl, ⟨(fun q => by cases q), fun q => absurd q HT.out⟩, rfl⟩
                · have HT : Hid (¬ (i + 1 < n ∧ (z (i + 1) = 43 ∨ z (i + 1) = 45))) := fun q => hlt1 q.1
                  go_wp2
                  go_meet
                  case rel => exact ⟨false, rfl, ⟨(fun q => by cases q), fun q => absurd q HT.out⟩, rfl⟩
              case rest =>
                obtain ⟨d, rfl, HD, rfl⟩ := hcut
                go_upto_if 108 with (fail)
                go_cut [4] from 7 (fun t wr => ∃ s : Nat, t = .int .i64 s ∧ s ≤ n ∧ Hid (R = tailB ((zl z n).drop s)) ∧ wr = w.alloc (.cells #[.slice (some ⟨b, off, none⟩) n c] 22))
                case first =>
                  cases d with
                  | false =>
                    have HF : Hid (R = tailB ((zl z n).drop (i + 1))) := by show _ = _; rw [HR.out]; exact expo_bare z n i hlt HE.out (fun q => by have := HD.out.2 q; cases this)
                    clear HR HD HE
                    go_wp2
                    go_meet
                    case rel => exact ⟨i + 1, by go_num, by omega, HF, rfl⟩
                  | true =>
                    obtain ⟨hl1, hs⟩ := HD.out.1 rfl
                    have HF : Hid (R = tailB ((zl z n).drop (i + 2))) := by show _ = _; rw [HR.out]; exact expo_sign z n i hlt HE.out hl1 hs
                    clear HR HD HE hs
                    go_wp2
                    go_meet
                    case rel => exact ⟨i + 2, by go_num, by omega, HF, rfl⟩
                case rest =>
                  obtain ⟨s, rfl, hs, HS, rfl⟩ := hcut
                  clear HD HE HR
                  go_wp2_with fail
                  refine (digits_any w.heap.size b off n c s z _ hn hs HB.out HC.out).mono ?_
                  rintro e w' ⟨j, rfl, hij, hjn, hd, he, rfl⟩
                  by_cases hj : j = s
                  · subst hj
                    have HF : Hid (R = false) := by show _ = _; rw [HS.out]; exact tail_none z n j he
                    clear HS hd he
                    go_wp2
                    go_ret
                    exact ⟨ret_bool' HF.out.symm, rfl⟩
                  · have HF : Hid (R = (j == n)) := by show _ = _; rw [HS.out]; exact tail_go z n s j (by omega) hjn hd he
                    have hbj : ((j : Int) == (s : Int)) = false := beq_eq_false_iff_ne.2 (by omega)
                    clear HS hd he hj
                    go_wp2
                    go_ret
                    exact ⟨ret_bool' (by rw [HF.out]; exact int_beq j n), rfl⟩
end Go.Proofs.Qxb6605555aDoor
