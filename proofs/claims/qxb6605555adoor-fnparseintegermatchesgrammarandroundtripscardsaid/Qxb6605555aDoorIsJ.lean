import Derived.Test.Qxb6605555aDoorParP
import Derived.WalkKit
import Derived.Below
import Derived.Deep.CutRange
namespace Go.Proofs.Qxb6605555aDoor
open Go.RowKit

/-- How isJSONInteger ends. -/
def IsjEnd (z : Nat → Int) (n : Nat) (w : World) (e : Ending) (w' : World) : Prop := ∃ B : Bool, e = .returned (.bool B) ∧ (B = true ↔ ∃ s m, IsInt z n s m) ∧ w' = w

theorem isj_end (z : Nat → Int) (n : Nat) (w : World) (B : Bool) (h : B = true ↔ ∃ s m, IsInt z n s m) : IsjEnd z n w (.returned (.bool B)) w := ⟨B, rfl, h, rfl⟩

theorem isInt_s {z : Nat → Int} {n s s' m : Nat} (h : IsInt z n s' m) (hs : (s = 1 ∧ z 0 = 45) ∨ (s = 0 ∧ ¬ z 0 = 45)) : s' = s := by
  have := h.sgn
  omega

theorem isj_no {z : Nat → Int} {n s : Nat} (hs : (s = 1 ∧ z 0 = 45) ∨ (s = 0 ∧ ¬ z 0 = 45)) (h : ∀ m, ¬ IsInt z n s m) : false = true ↔ ∃ s m, IsInt z n s m :=
  ⟨(fun q => by cases q), fun ⟨s', m, q⟩ => by have e := isInt_s q hs; subst e; exact absurd q (h m)⟩

theorem isj_yes {z : Nat → Int} {n s m : Nat} (h : IsInt z n s m) : true = true ↔ ∃ s m, IsInt z n s m := ⟨fun _ => ⟨s, m, h⟩, fun _ => rfl⟩

set_option maxHeartbeats 2000000 in
theorem isj_empty (a : Option Addr) (c : Nat) (z : Nat → Int) (w : World) : Calls Tryd.prog 9 #[.slice a 0 c] w (IsjEnd z 0 w) := by
  go_enter Tryd.func9, Tryd.ntmps9
  go_wp2
  go_ret
  exact isj_end z 0 w false ⟨(fun q => by cases q), fun ⟨s, m, q⟩ => by have := q.sn; have := q.m0; omega⟩

set_option maxRecDepth 100000 in
set_option maxHeartbeats 4000000 in
/-- isJSONInteger of a text that is not empty. -/
theorem isj_any (b off n c : Nat) (z : Nat → Int) (w : World) (hn : n ≤ 1048577) (hn0 : 0 < n)
    (hc : ∀ j, j < n → w.cell? ⟨b, off + j, none⟩ = some (.int .u8 (z j))) :
    Calls Tryd.prog 9 #[.slice (some ⟨b, off, none⟩) n c] w (IsjEnd z n w) := by
  have h0 := hc 0 hn0
  rw [Nat.add_zero] at h0
  have hbn : ((n : Int) == 0) = false := beq_eq_false_iff_ne.2 (by omega)
  go_enter Tryd.func9, Tryd.ntmps9
  go_upto_if 11 with (fail)
  go_cut [3] from 5 (fun t wr => ∃ s : Nat, t = .int .i64 s ∧ s ≤ 1 ∧ Hid ((s = 1 ∧ z 0 = 45) ∨ (s = 0 ∧ ¬ z 0 = 45)) ∧ w = wr)
  case first =>
    by_cases h45 : z 0 = 45
    · have hb : (z 0 == 45) = true := beq_iff_eq.2 h45
      have H : Hid (z 0 = 45) := h45
      clear h45
      go_wp2
      go_meet
      case rel => exact ⟨1, rfl, by omega, .inl ⟨rfl, H.out⟩, rfl⟩
    · have hb : (z 0 == 45) = false := beq_eq_false_iff_ne.2 h45
      have H : Hid (¬ z 0 = 45) := h45
      clear h45
      go_wp2
      go_meet
      case rel => exact ⟨0, rfl, by omega, .inr ⟨rfl, H.out⟩, rfl⟩
  case rest =>
    obtain ⟨s, rfl, hs1, HS, rfl⟩ := hcut
    clear h0
    by_cases hsn : s = n
    · have hb : ((s : Int) == (n : Int)) = true := beq_iff_eq.2 (by omega)
      have HN : Hid (s = n) := hsn
      clear hsn
      go_wp2
      go_ret
      exact isj_end z n w false (isj_no HS.out (fun m q => by have := q.sn; have := q.m0; have := HN.out; omega))
    · have hb : ((s : Int) == (n : Int)) = false := beq_eq_false_iff_ne.2 (by omega)
      have hsl : s < n := by omega
      have hcs := hc s hsl
      clear hsn
      go_wp2
      go_loop [4] (fun t => ∃ k : Nat, t = .int .i64 k ∧ s ≤ k ∧ k ≤ n ∧ Hid (∀ i, s ≤ i → i < k → 48 ≤ z i ∧ z i ≤ 57)) (fun t => n - (intOf t).toNat)
      case atStart => exact ⟨s, rfl, Nat.le_refl _, by omega, fun i h1 h2 => by omega⟩
      case round =>
        obtain ⟨k, rfl, hsk, hk, HD⟩ := hrel
        by_cases hlt : k < n
        · have hck := hc k hlt
          by_cases h1 : z k < 48
          · go_wp2
            go_ret
            exact isj_end z n w false (isj_no HS.out (fun m q => by
              have q1 := q.lo (k - s) (by have := q.sn; omega)
              rw [show s + (k - s) = k by omega] at q1; omega))
          · by_cases h2 : 57 < z k
            · go_wp2
              go_ret
              exact isj_end z n w false (isj_no HS.out (fun m q => by
                have q1 := q.hi (k - s) (by have := q.sn; omega)
                rw [show s + (k - s) = k by omega] at q1; omega))
            · go_wp2
              go_round
              case rel => exact ⟨k + 1, by go_num, by omega, by omega, fun i h3 h4 => by
                by_cases e : i = k
                · subst e; omega
                · exact HD.out i h3 (by omega)⟩
              case measure => simp [intOf]; omega
        · have HA : Hid (∀ i, s ≤ i → i < n → 48 ≤ z i ∧ z i ≤ 57) := fun i h1 h2 => HD.out i h1 (by omega)
          have HY : Hid ((z s = 48 → n - s = 1) → IsInt z n s (n - s)) := fun h => ⟨by omega, by omega, HS.out, fun i hi => (HA.out (s + i) (by omega) (by omega)).1, fun i hi => (HA.out (s + i) (by omega) (by omega)).2, h⟩
          clear HD HA
          by_cases h48 : z s = 48
          · have hb48 : (z s == 48) = true := beq_iff_eq.2 h48
            have H48 : Hid (z s = 48) := h48
            clear h48
            by_cases h1 : 1 < n - s
            · have h1' : (1 : Int) < (n : Int) - (s : Int) := by omega
              go_wp2
              go_ret
              exact isj_end z n w false (isj_no HS.out (fun m q => by have := q.nought H48.out; have := q.sn; omega))
            · have h1' : ¬ (1 : Int) < (n : Int) - (s : Int) := by omega
              go_wp2
              go_ret
              exact isj_end z n w true (isj_yes (HY.out (fun _ => by omega)))
          · have hb48 : (z s == 48) = false := beq_eq_false_iff_ne.2 h48
            have H48 : Hid (¬ z s = 48) := h48
            clear h48
            go_wp2
            go_ret
            exact isj_end z n w true (isj_yes (HY.out (fun h => absurd h H48.out)))
end Go.Proofs.Qxb6605555aDoor
