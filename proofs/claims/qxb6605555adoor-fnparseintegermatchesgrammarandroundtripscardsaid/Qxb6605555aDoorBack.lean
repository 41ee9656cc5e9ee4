import Derived.Test.Qxb6605555aDoorTxt
import Derived.Test.Qxb6605555aDoorParP
namespace Go.Proofs.Qxb6605555aDoor
open Go.RowKit

/-! Plain: the text of limbs reads back as the limbs. -/

theorem mod_step (x i : Nat) : x / 10 % 10 ^ i * 10 + x % 10 = x % 10 ^ (i + 1) := by
  rw [Nat.pow_succ, Nat.mul_comm (10 ^ i) 10, Nat.mod_mul]
  omega

/-- The digits of u, len of them, most significant first, read as u's remainder. -/
theorem valI_digits (z : Nat → Int) (lo u len : Nat) (h : ∀ i, i < len → z (lo + i) = ((48 + u / 10 ^ (len - 1 - i) % 10 : Nat) : Int)) : ∀ i, i ≤ len → valI z lo i = ((u / 10 ^ (len - i) % 10 ^ i : Nat) : Int)
  | 0, _ => by simp [valI, Nat.mod_one]
  | i + 1, hi => by
    rw [valI, valI_digits z lo u len h i (by omega), h i (by omega)]
    have e1 : u / 10 ^ (len - i) = u / 10 ^ (len - 1 - i) / 10 := by rw [Nat.div_div_eq_div_mul, ← Nat.pow_succ]; congr 2; omega
    have e2 : u / 10 ^ (len - (i + 1)) = u / 10 ^ (len - 1 - i) := by congr 2; omega
    have e3 := mod_step (u / 10 ^ (len - 1 - i)) i
    rw [e1, e2, ← e3]
    omega

theorem valI_all (z : Nat → Int) (lo u len : Nat) (hu : u < 10 ^ len) (h : ∀ i, i < len → z (lo + i) = ((48 + u / 10 ^ (len - 1 - i) % 10 : Nat) : Int)) : valI z lo len = (u : Int) := by
  rw [valI_digits z lo u len h len (Nat.le_refl _), Nat.sub_self, Nat.pow_zero, Nat.div_one, Nat.mod_eq_of_lt hu]

/-- A text z that holds the digits of f from place s on. -/
def HoldsTxt (z : Nat → Int) (s : Nat) (f : Nat → Nat) (L : Nat) : Prop := ∀ i, i < 18 * L - lead f L → z (s + i) = (dgt f (18 * L - 1 - (lead f L + i)) : Int)

theorem limbN_back (f : Nat → Nat) (L : Nat) (hL : 0 < L) : limbN (18 * L - lead f L) = L := by
  have := lead_lt f L
  unfold limbN; omega

theorem limbAt_back (z : Nat → Int) (s : Nat) (f : Nat → Nat) (L k : Nat) (hf : ∀ j, j < L → f j < 1000000000000000000) (hz : HoldsTxt z s f L) (hk : k < L) : limbAt z s (18 * L - lead f L) k = (f k : Int) := by
  have hl := lead_lt f L
  unfold limbAt
  obtain ⟨len, hlen⟩ : ∃ len, 18 * L - lead f L - 18 * k - (18 * L - lead f L - 18 * k - 18) = len := ⟨_, rfl⟩
  obtain ⟨lo, hlo⟩ : ∃ lo, 18 * L - lead f L - 18 * k - 18 = lo := ⟨_, rfl⟩
  rw [hlo] at hlen ⊢
  rw [hlen]
  have hu : f k < 10 ^ len := by
    by_cases ht : k = L - 1
    · have e : len = Lib.nDigits (f k) := by
        have h1 := Lib.decDigits_length (f (L - 1))
        have h2 := dec_le18 (f (L - 1)) (hf _ (by omega))
        unfold lead at hlen hlo hl
        rw [ht]
        omega
      rw [e]; exact Lib.lt_pow_nDigits _
    · have e : len = 18 := by omega
      rw [e]; have := hf k hk; simpa using this
  refine valI_all z (s + lo) (f k) len hu (fun i hi => ?_)
  have h1 := hz (lo + i) (by omega)
  rw [← Nat.add_assoc] at h1
  rw [h1]
  have e : 18 * L - 1 - (lead f L + (lo + i)) = 18 * k + (len - 1 - i) := by omega
  rw [e, dgt_at f k _ (by omega)]

/-- The digits make a JSON integer. -/
theorem isInt_back (z : Nat → Int) (s n : Nat) (f : Nat → Nat) (L : Nat) (hL : 0 < L) (hf : ∀ j, j < L → f j < 1000000000000000000) (htop : ¬ f (L - 1) = 0) (hz : HoldsTxt z s f L) (hn : n = s + (18 * L - lead f L)) (hs : (s = 1 ∧ z 0 = 45) ∨ s = 0) : IsInt z n s (18 * L - lead f L) ∧ ¬ z s = 48 := by
  have hl := lead_lt f L
  have h0 := hz 0 (by omega)
  rw [Nat.add_zero, Nat.add_zero] at h0
  have hnx := lead_next f L hL hf htop
  have h48 : ¬ z s = 48 := by rw [h0]; omega
  refine ⟨⟨hn, by omega, ?_, fun i hi => ?_, fun i hi => ?_, fun q => absurd q h48⟩, h48⟩
  · rcases hs with h | h
    · exact .inl h
    · refine .inr ⟨h, ?_⟩
      subst h
      rw [h0]
      have := dgt_lo f (18 * L - 1 - lead f L)
      omega
  · rw [hz i hi]; have := dgt_lo f (18 * L - 1 - (lead f L + i)); omega
  · rw [hz i hi]; have := dgt_hi f (18 * L - 1 - (lead f L + i)); omega
end Go.Proofs.Qxb6605555aDoor
