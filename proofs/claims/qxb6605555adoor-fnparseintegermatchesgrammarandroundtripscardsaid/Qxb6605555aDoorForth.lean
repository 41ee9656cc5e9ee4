import Derived.Test.Qxb6605555aDoorLawB
namespace Go.Proofs.Qxb6605555aDoor
open Go.RowKit

/-! Plain: what parseInteger reads is written back. -/

theorem valI_nat (z : Nat → Int) (lo : Nat) : ∀ len, (∀ i, i < len → 48 ≤ z (lo + i) ∧ z (lo + i) ≤ 57) → ∀ d, d < len → (valI z lo len).toNat / 10 ^ d % 10 = (z (lo + (len - 1 - d)) - 48).toNat
  | 0, _, d, h => by omega
  | len + 1, hz, d, hd => by
    have hv := valI_lo z lo len (fun i hi => (hz i (by omega)).1)
    have hl := hz len (by omega)
    rw [valI]
    have e : (valI z lo len * 10 + (z (lo + len) - 48)).toNat = (valI z lo len).toNat * 10 + (z (lo + len) - 48).toNat := by omega
    rw [e]
    cases d with
    | zero =>
      rw [Nat.pow_zero, Nat.div_one, show len + 1 - 1 - 0 = len by omega]
      omega
    | succ d =>
      have ih := valI_nat z lo len (fun i hi => hz i (by omega)) d (by omega)
      rw [show len + 1 - 1 - (d + 1) = len - 1 - d by omega, ← ih, Nat.pow_succ, Nat.mul_comm (10 ^ d) 10, ← Nat.div_div_eq_div_mul]
      congr 2
      omega

theorem valI_none (z : Nat → Int) (lo len d : Nat) (hz : ∀ i, i < len → 48 ≤ z (lo + i) ∧ z (lo + i) ≤ 57) (hd : len ≤ d) : (valI z lo len).toNat / 10 ^ d % 10 = 0 := by
  have h1 := valI_lo z lo len (fun i hi => (hz i hi).1)
  have h2 := valI_hi z lo len (fun i hi => (hz i hi).2)
  have h3 : 10 ^ len ≤ 10 ^ d := Nat.pow_le_pow_right (by omega) hd
  have h4 : (valI z lo len).toNat < 10 ^ d := by omega
  rw [Nat.div_eq_of_lt h4]

/-- The limbs as numbers. -/
def limbNat (z : Nat → Int) (s m k : Nat) : Nat := (limbAt z s m k).toNat

section
variable {z : Nat → Int} {n s m : Nat}

theorem IsInt.dig (h : IsInt z n s m) : ∀ i, i < m → 48 ≤ z (s + i) ∧ z (s + i) ≤ 57 := fun i hi => ⟨h.lo i hi, h.hi i hi⟩

theorem limbNat_dgt (h : IsInt z n s m) (r : Nat) (hr : r < m) : (dgt (limbNat z s m) r : Int) = z (s + (m - 1 - r)) := by
  unfold dgt limbNat limbAt
  obtain ⟨lo, hlo⟩ : ∃ lo, m - 18 * (r / 18) - 18 = lo := ⟨_, rfl⟩
  obtain ⟨len, hlen⟩ : ∃ len, m - 18 * (r / 18) - lo = len := ⟨_, rfl⟩
  rw [hlo, hlen]
  have hz : ∀ i, i < len → 48 ≤ z (s + lo + i) ∧ z (s + lo + i) ≤ 57 := fun i hi => by
    have := h.dig (lo + i) (by omega)
    rwa [← Nat.add_assoc] at this
  rw [valI_nat z (s + lo) len hz (r % 18) (by omega)]
  have hb := hz (len - 1 - r % 18) (by omega)
  rw [show s + (m - 1 - r) = s + lo + (len - 1 - r % 18) by omega]
  omega

theorem limbNat_zero (h : IsInt z n s m) (r : Nat) (hr : m ≤ r) : dgt (limbNat z s m) r = 48 := by
  unfold dgt limbNat limbAt
  obtain ⟨lo, hlo⟩ : ∃ lo, m - 18 * (r / 18) - 18 = lo := ⟨_, rfl⟩
  obtain ⟨len, hlen⟩ : ∃ len, m - 18 * (r / 18) - lo = len := ⟨_, rfl⟩
  rw [hlo, hlen]
  have hz : ∀ i, i < len → 48 ≤ z (s + lo + i) ∧ z (s + lo + i) ≤ 57 := fun i hi => by
    have := h.dig (lo + i) (by omega)
    rwa [← Nat.add_assoc] at this
  rw [valI_none z (s + lo) len (r % 18) hz (by omega)]

theorem limbNat_small (h : IsInt z n s m) (k : Nat) : limbNat z s m k < 1000000000000000000 := by
  have := limbAt_small z s m k h.lo h.hi
  unfold limbNat; omega

theorem limbNat_top (h : IsInt z n s m) (h48 : ¬ z s = 48) : ¬ limbNat z s m (limbN m - 1) = 0 := by
  have h1 := h.dig 0 h.m0
  rw [Nat.add_zero] at h1
  have := limbAt_top z s m h.m0 (by omega) h.lo
  unfold limbNat; omega

theorem limbN_pos (h : IsInt z n s m) : 0 < limbN m := by have := h.m0; unfold limbN; omega

theorem lead_forth (h : IsInt z n s m) (h48 : ¬ z s = 48) : 18 * limbN m - m = lead (limbNat z s m) (limbN m) := by
  have hm := h.m0
  have hN : m ≤ 18 * limbN m := by unfold limbN; omega
  refine lead_uniq _ (limbN m) _ (limbN_pos h) (fun j _ => limbNat_small h j) (limbNat_top h h48) (fun p hp => ?_) ?_
  · exact limbNat_zero h _ (by omega)
  · have e := limbNat_dgt h (18 * limbN m - 1 - (18 * limbN m - m)) (by omega)
    rw [show m - 1 - (18 * limbN m - 1 - (18 * limbN m - m)) = 0 by omega, Nat.add_zero] at e
    omega

theorem full_len (h : IsInt z n s m) (h48 : ¬ z s = 48) : (fullText (decide (s = 1)) (limbNat z s m) (limbN m)).length = n := by
  have hN : m ≤ 18 * limbN m := by unfold limbN; omega
  have hp := limbN_pos h
  unfold fullText
  rw [if_neg (by omega), List.length_append, bigText_len _ _ hp (fun j _ => limbNat_small h j), ← lead_forth h h48]
  have hsn := h.sn
  rcases h.sgn with ⟨e, _⟩ | ⟨e, _⟩ <;> subst e <;> simp [minusT] <;> omega

theorem full_num (h : IsInt z n s m) (h48 : ¬ z s = 48) (j : Nat) (hj : j < n) : numAt (Lib.byteCells (fullText (decide (s = 1)) (limbNat z s m) (limbN m))) j = z j := by
  have hN : m ≤ 18 * limbN m := by unfold limbN; omega
  have hp := limbN_pos h
  have hsn := h.sn
  have hm := h.m0
  have hl := lead_forth h h48
  have hz := holds_full (decide (s = 1)) (limbNat z s m) (limbN m) hp (fun j _ => limbNat_small h j)
  have dig : ∀ i, i < m → numAt (Lib.byteCells (fullText (decide (s = 1)) (limbNat z s m) (limbN m))) ((minusT (decide (s = 1))).length + i) = z (s + i) := fun i hi => by
    rw [hz i (by omega), ← hl, show 18 * limbN m - 1 - (18 * limbN m - m + i) = m - 1 - i by omega, limbNat_dgt h _ (by omega), show m - 1 - (m - 1 - i) = i by omega]
  rcases h.sgn with ⟨e, e45⟩ | ⟨e, _⟩
  · subst e
    cases j with
    | zero =>
      rw [e45]
      exact full_minus (limbNat z 1 m) (limbN m) hp
    | succ j =>
      have := dig j (by omega)
      rw [show (minusT (decide (1 = 1))).length + j = j + 1 by simp [minusT]; omega, Nat.add_comm 1 j] at this
      exact this
  · subst e
    have := dig j (by omega)
    rw [show (minusT (decide (0 = 1))).length + j = j by simp [minusT], Nat.zero_add] at this
    exact this
end
end Go.Proofs.Qxb6605555aDoor
