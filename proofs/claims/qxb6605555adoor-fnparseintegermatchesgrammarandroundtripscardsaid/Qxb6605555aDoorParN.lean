import Derived.Test.Qxb6605555aDoorNum
import Derived.Test.Qxb6605555aDoorParP
import Derived.WalkKit
import Derived.Below
import Derived.Deep.CutRange
import Derived.Deep.QuietTactic
import Derived.BigQuiet
namespace Go.Proofs.Qxb6605555aDoor
open Go.RowKit

/-- How parseInteger refuses. -/
def ParNo (w : World) (e : Ending) (w' : World) : Prop := e = .returned (.tuple #[.agg #[.bool false, .slice none 0 0], .bool false]) ∧ Below w.heap.size w w'
/-- How ZZParseInteger refuses. -/
def ZzNo (w : World) (e : Ending) (w' : World) : Prop := e = .returned (.tuple #[.bool false, .slice none 0 0, .bool false]) ∧ Below w.heap.size w w'

theorem num_s {z : Nat → Int} {n s : Nat} (hn : 0 < n) (hs : (s = 1 ∧ z 0 = 45) ∨ (s = 0 ∧ ¬ z 0 = 45)) (h : numB (zl z n) = true) : intB ((zl z n).drop s) = true := by
  rcases hs with ⟨rfl, g⟩ | ⟨rfl, g⟩
  · rw [← num_minus z n hn g]; exact h
  · rw [← num_plain z n hn g]; exact h

theorem num_lt {z : Nat → Int} {n s : Nat} (h : intB ((zl z n).drop s) = true) : s < n := by
  rcases Nat.lt_or_ge s n with g | g
  · exact g
  · rw [int_none z n s g] at h; cases h

theorem num_int {z : Nat → Int} {n s : Nat} (hs : (s = 1 ∧ z 0 = 45) ∨ (s = 0 ∧ ¬ z 0 = 45)) (h : intB ((zl z n).drop s) = true) (hd : ∀ i, i < n - s → 48 ≤ z (s + i) ∧ z (s + i) ≤ 57) : IsInt z n s (n - s) := by
  have hlt := num_lt h
  refine ⟨by omega, by omega, hs, fun i hi => (hd i hi).1, fun i hi => (hd i hi).2, fun q => ?_⟩
  rcases Nat.lt_or_ge (s + 1) n with g | g
  · exfalso
    rw [int_zero z n s hlt q, zl_drop z n (s + 1) g] at h
    have h1 := hd 1 (by omega)
    have e1 : ¬ z (s + 1) = 46 := by omega
    have e2 : ¬ (z (s + 1) = 101 ∨ z (s + 1) = 69) := by omega
    simp [fracB, e1, expoB, e2] at h
  · omega

set_option maxRecDepth 100000 in
set_option maxHeartbeats 1000000 in
theorem parse_empty (a : Option Addr) (c : Nat) (w : World) : Calls Tryd.prog 18 #[.slice a 0 c] w (ParNo w) := by
  go_enter Tryd.func18, Tryd.ntmps18
  go_wp2
  exact bodyPost_ret (v := .tuple #[.agg #[.bool false, .slice none 0 0], .bool false]) (by simp [results, Tryd.results18, go_sem]) rfl ⟨rfl, (Below.refl _ _).alloc (Nat.le_refl _) _⟩

set_option maxRecDepth 100000 in
set_option maxHeartbeats 4000000 in
theorem parse_no (b off n c : Nat) (z : Nat → Int) (w : World) (hn : n ≤ 1048577) (hn0 : 0 < n) (hnc : n ≤ c) (hc63 : c ≤ 9223372036854775807) (hb : b < w.heap.size)
    (hc : ∀ j, j < n → w.cell? ⟨b, off + j, none⟩ = some (.int .u8 (z j))) (hI : ¬ ∃ s m, IsInt z n s m) :
    Calls Tryd.prog 18 #[.slice (some ⟨b, off, none⟩) n c] w (ParNo w) := by
  have HC : Hid (∀ j, j < n → w.cell? ⟨b, off + j, none⟩ = some (.int .u8 (z j))) := hc
  have HI : Hid (¬ ∃ s m, IsInt z n s m) := hI
  have hb0 : ((n : Int) == 0) = false := beq_eq_false_iff_ne.2 (by omega)
  clear hc hI
  go_enter Tryd.func18, Tryd.ntmps18
  go_wp2_with fail
  refine (number_any b off n c z (w.alloc (.cells #[.bool false, .slice none 0 0] 37)) hn hn0 (by simp; omega) (fun j hj => (((Below.refl w.heap.size w).alloc (Nat.le_refl _) _).cell (p := ⟨b, off + j, none⟩) hb).trans (HC.out j hj))).mono ?_
  rintro e w2 ⟨rfl, rfl⟩
  cases hnum : numB (zl z n) with
  | false =>
    clear hnum
    go_wp2
    exact bodyPost_ret (v := .tuple #[.agg #[.bool false, .slice none 0 0], .bool false]) (by simp [results, Tryd.results18, go_sem]) rfl ⟨rfl, ((Below.refl _ _).alloc (Nat.le_refl _) _).alloc (by simp) _⟩
  | true =>
    have HNum := (show Hid (numB (zl z n) = true) from hnum)
    have h0 := HC.out 0 hn0
    rw [Nat.add_zero] at h0
    clear hnum
    go_upto_if 25 with (fail)
    go_cut [4] from 12 (fun t wr => ∃ s cd : Nat, t = .slice (some ⟨b, off + s, none⟩) (n - s) cd ∧ s < n ∧ Hid ((s = 1 ∧ z 0 = 45) ∨ (s = 0 ∧ ¬ z 0 = 45)) ∧ Hid (intB ((zl z n).drop s) = true) ∧ wr = (w.alloc (.cells #[.bool false, .slice none 0 0] 37)).alloc (.cells #[.slice (some ⟨b, off, none⟩) n c] 22))
    case first =>
      by_cases h45 : z 0 = 45
      · have hbb : (z 0 == 45) = true := beq_iff_eq.2 h45
        have H45 := (show Hid (z 0 = 45) from h45)
        have HT := (show Hid (intB ((zl z n).drop 1) = true) from num_s hn0 (.inl ⟨rfl, h45⟩) HNum.out)
        have h1n : 1 < n := num_lt HT.out
        have hc1 : ¬ c = 1 := by omega
        clear h45
        go_wp2
        go_meet
        case rel => exact ⟨1, c - 1, rfl, h1n, .inl ⟨rfl, H45.out⟩, HT, rfl⟩
      · have hbb : (z 0 == 45) = false := beq_eq_false_iff_ne.2 h45
        have H45 := (show Hid (¬ z 0 = 45) from h45)
        have HT := (show Hid (intB ((zl z n).drop 0) = true) from num_s hn0 (.inr ⟨rfl, h45⟩) HNum.out)
        clear h45
        go_wp2
        go_meet
        case rel => exact ⟨0, c, rfl, hn0, .inr ⟨rfl, H45.out⟩, HT, rfl⟩
    case rest =>
      obtain ⟨s, cd, rfl, hsn, HS, HT, rfl⟩ := hcut
      clear h0
      have HCs : Hid (∀ k, k < n - s → w.cell? ⟨b, off + s + k, none⟩ = some (.int .u8 (z (s + k)))) := fun k hk => by
        have := HC.out (s + k) (by omega)
        rwa [← Nat.add_assoc] at this
      obtain ⟨m, hm⟩ : ∃ m, n - s = m := ⟨_, rfl⟩
      rw [hm] at HCs ⊢
      have HM := (show Hid (n - s = m) from hm)
      have hmn : m ≤ n := by omega
      clear hm
      go_wp2
      go_loop [30] (fun t => ∃ k : Nat, t = .int .i64 k ∧ k ≤ m ∧ Hid (∀ i, i < k → 48 ≤ z (s + i) ∧ z (s + i) ≤ 57)) (fun t => m - (intOf t).toNat)
      case atStart => exact ⟨0, rfl, Nat.zero_le _, fun i hi => by omega⟩
      case round =>
        obtain ⟨k, rfl, hk, HD⟩ := hrel
        by_cases hlt : k < m
        · have hck := HCs.out k hlt
          by_cases h1 : z (s + k) < 48
          · go_wp2
            exact bodyPost_ret (v := .tuple #[.agg #[.bool false, .slice none 0 0], .bool false]) (by simp [results, Tryd.results18, go_sem]) rfl ⟨rfl, ((Below.refl _ _).alloc (Nat.le_refl _) _).alloc (by simp) _⟩
          · by_cases h2 : 57 < z (s + k)
            · go_wp2
              exact bodyPost_ret (v := .tuple #[.agg #[.bool false, .slice none 0 0], .bool false]) (by simp [results, Tryd.results18, go_sem]) rfl ⟨rfl, ((Below.refl _ _).alloc (Nat.le_refl _) _).alloc (by simp) _⟩
            · go_wp2
              go_round
              case rel => exact ⟨k + 1, by go_num, by omega, fun i hi => by
                by_cases e : i = k
                · subst e; omega
                · exact HD.out i (by omega)⟩
              case measure => simp [intOf]; omega
        · exact absurd ⟨s, n - s, num_int HS.out HT.out (fun i hi => HD.out i (by have := HM.out; omega))⟩ HI.out

set_option maxRecDepth 100000 in
set_option maxHeartbeats 2000000 in
theorem zz_no (a : Option Addr) (n c : Nat) (w : World) (h : Calls Tryd.prog 18 #[.slice a n c] w (ParNo w)) : Calls Tryd.prog 8 #[.slice a n c] w (ZzNo w) := by
  have H := (show Hid (Calls Tryd.prog 18 #[.slice a n c] w (ParNo w)) from h)
  clear h
  go_enter Tryd.func8, Tryd.ntmps8
  go_wp2_with fail
  refine H.out.mono ?_
  rintro e w1 ⟨rfl, hbel⟩
  have HB := (show Hid (Below w.heap.size w w1) from hbel)
  clear hbel H
  go_wp2_with fail
  go_quiet (fail)
  go_wp2
  go_ret3
  exact ⟨rfl, (HB.out.alloc HB.out.size _).trans ⟨rfl, rfl, rfl, Nat.le_refl _, fun _ _ => rfl⟩⟩
end Go.Proofs.Qxb6605555aDoor
