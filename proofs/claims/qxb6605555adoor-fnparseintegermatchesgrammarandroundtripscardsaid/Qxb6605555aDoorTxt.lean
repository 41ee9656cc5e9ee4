import Derived.Test.Qxb6605555aDoorZzA
import Derived.Test.Qxb6605555aDoorDec
namespace Go.Proofs.Qxb6605555aDoor
open Go.RowKit

/-! The text of limbs, digit by digit. -/

theorem pow_nDigits : ∀ (k u : Nat), Lib.nDigits u = k → 0 < u → 10 ^ (k - 1) ≤ u
  | 0, u, h, _ => by have := Lib.nDigits_pos u; omega
  | k + 1, u, h, hu => by
    by_cases h10 : u < 10
    · rw [Lib.nDigits_small h10] at h
      have : k = 0 := by omega
      subst this
      simp; omega
    · rw [Lib.nDigits_big h10] at h
      have hk : Lib.nDigits (u / 10) = k := by omega
      have hp := Lib.nDigits_pos (u / 10)
      have ih := pow_nDigits k (u / 10) hk (by omega)
      have e : k + 1 - 1 = (k - 1) + 1 := by omega
      rw [e, Nat.pow_succ]
      omega

theorem dec_get (u i : Nat) (h : i < Lib.nDigits u) : (Lib.decDigits u)[i]? = some (UInt8.ofNat (48 + u / 10 ^ (Lib.nDigits u - 1 - i) % 10)) := by
  rw [Lib.decDigits_eq]
  simp [h, Lib.dg]

theorem pad18_get (u i : Nat) (hu : u < 1000000000000000000) (hi : i < 18) : (pad18 u)[i]? = some (UInt8.ofNat (48 + u / 10 ^ (17 - i) % 10)) := by
  have hl := dec_le18 u hu
  have hd := Lib.decDigits_length u
  unfold pad18
  by_cases g : i < 18 - (Lib.decDigits u).length
  · rw [List.getElem?_append_left (by simpa using g)]
    have h0 : u / 10 ^ (17 - i) = 0 := by
      apply Nat.div_eq_of_lt
      have h1 := Lib.lt_pow_nDigits u
      have h2 : 10 ^ Lib.nDigits u ≤ 10 ^ (17 - i) := Nat.pow_le_pow_right (by omega) (by omega)
      omega
    rw [h0]
    simp [g]
  · rw [List.getElem?_append_right (by simpa using g)]
    rw [List.length_replicate, dec_get u _ (by omega)]
    rw [show Lib.nDigits u - 1 - (i - (18 - (Lib.decDigits u).length)) = 17 - i by omega]

theorem lowText_get (f : Nat → Nat) : ∀ q, (∀ j, j < q → f j < 1000000000000000000) → ∀ p, p < 18 * q → (lowText f q)[p]? = some (UInt8.ofNat (dgt f (18 * q - 1 - p)))
  | 0, _, p, h => by omega
  | q + 1, hf, p, h => by
    have hl := pad18_length (f q) (hf q (by omega))
    rw [lowText]
    by_cases g : p < 18
    · rw [List.getElem?_append_left (by omega), pad18_get _ _ (hf q (by omega)) g]
      unfold dgt
      rw [show (18 * (q + 1) - 1 - p) / 18 = q by omega, show (18 * (q + 1) - 1 - p) % 18 = 17 - p by omega]
    · rw [List.getElem?_append_right (by omega), hl, lowText_get f q (fun j hj => hf j (by omega)) (p - 18) (by omega)]
      rw [show 18 * q - 1 - (p - 18) = 18 * (q + 1) - 1 - p by omega]

/-- How many noughts lead. -/
def lead (f : Nat → Nat) (L : Nat) : Nat := 18 - (Lib.decDigits (f (L - 1))).length

theorem lowText_big (f : Nat → Nat) (L : Nat) (hL : 0 < L) : lowText f L = List.replicate (lead f L) 48 ++ bigText f L := by
  obtain ⟨q, rfl⟩ : ∃ q, L = q + 1 := ⟨L - 1, by omega⟩
  rw [lowText, pad18, lead, bigText]
  simp

theorem lead_lt (f : Nat → Nat) (L : Nat) : lead f L < 18 := by
  have := dec_pos (f (L - 1))
  unfold lead; omega

theorem bigText_len (f : Nat → Nat) (L : Nat) (hL : 0 < L) (hf : ∀ j, j < L → f j < 1000000000000000000) : (bigText f L).length = 18 * L - lead f L := by
  have h := lowText_length f L hf
  rw [lowText_big f L hL, List.length_append, List.length_replicate] at h
  omega

theorem bigText_get (f : Nat → Nat) (L : Nat) (hL : 0 < L) (hf : ∀ j, j < L → f j < 1000000000000000000) (j : Nat) (hj : j < 18 * L - lead f L) : (bigText f L)[j]? = some (UInt8.ofNat (dgt f (18 * L - 1 - (lead f L + j)))) := by
  have h := lowText_get f L hf (lead f L + j) (by omega)
  rw [lowText_big f L hL, List.getElem?_append_right (by simp)] at h
  simpa using h

theorem lead_zero (f : Nat → Nat) (L : Nat) (hL : 0 < L) (p : Nat) (hp : p < lead f L) : dgt f (18 * L - 1 - p) = 48 := by
  unfold dgt
  unfold lead at hp
  have hd := Lib.decDigits_length (f (L - 1))
  rw [show (18 * L - 1 - p) / 18 = L - 1 by omega, show (18 * L - 1 - p) % 18 = 17 - p by omega]
  have h0 : f (L - 1) / 10 ^ (17 - p) = 0 := by
    apply Nat.div_eq_of_lt
    have h1 := Lib.lt_pow_nDigits (f (L - 1))
    have h2 : 10 ^ Lib.nDigits (f (L - 1)) ≤ 10 ^ (17 - p) := Nat.pow_le_pow_right (by omega) (by omega)
    omega
  rw [h0]

theorem lead_next (f : Nat → Nat) (L : Nat) (hL : 0 < L) (hf : ∀ j, j < L → f j < 1000000000000000000) (htop : ¬ f (L - 1) = 0) : ¬ dgt f (18 * L - 1 - lead f L) = 48 := by
  have hd := Lib.decDigits_length (f (L - 1))
  have hl := dec_le18 (f (L - 1)) (hf _ (by omega))
  have hp := Lib.nDigits_pos (f (L - 1))
  unfold dgt
  rw [show (18 * L - 1 - lead f L) / 18 = L - 1 by unfold lead; omega, show (18 * L - 1 - lead f L) % 18 = Lib.nDigits (f (L - 1)) - 1 by unfold lead; omega]
  have h1 := Lib.lt_pow_nDigits (f (L - 1))
  have h2 := pow_nDigits _ (f (L - 1)) rfl (by omega)
  have e : 10 ^ Lib.nDigits (f (L - 1)) = 10 ^ (Lib.nDigits (f (L - 1)) - 1) * 10 := by rw [← Nat.pow_succ]; congr 1; omega
  rw [e] at h1
  have hpos : 0 < 10 ^ (Lib.nDigits (f (L - 1)) - 1) := Nat.pow_pos (by omega)
  have h3 : f (L - 1) / 10 ^ (Lib.nDigits (f (L - 1)) - 1) < 10 := by
    apply (Nat.div_lt_iff_lt_mul hpos).2
    omega
  have h4 : 1 ≤ f (L - 1) / 10 ^ (Lib.nDigits (f (L - 1)) - 1) := (Nat.le_div_iff_mul_le hpos).2 (by omega)
  omega

/-- The first place where the digits cease to be nought is one. -/
theorem lead_uniq (f : Nat → Nat) (L ld : Nat) (hL : 0 < L) (hf : ∀ j, j < L → f j < 1000000000000000000) (htop : ¬ f (L - 1) = 0) (h1 : ∀ p, p < ld → dgt f (18 * L - 1 - p) = 48) (h2 : ¬ dgt f (18 * L - 1 - ld) = 48) : ld = lead f L := by
  rcases Nat.lt_trichotomy ld (lead f L) with h | h | h
  · exact absurd (lead_zero f L hL ld h) h2
  · exact h
  · exact absurd (h1 _ h) (lead_next f L hL hf htop)

theorem dgt_lo (f : Nat → Nat) (r : Nat) : 48 ≤ dgt f r := by unfold dgt; omega
theorem dgt_hi (f : Nat → Nat) (r : Nat) : dgt f r ≤ 57 := by unfold dgt; omega

/-- The text's cells. -/
theorem bigText_cells (f : Nat → Nat) (L : Nat) (hL : 0 < L) (hf : ∀ j, j < L → f j < 1000000000000000000) : Lib.byteCells (bigText f L) = (List.range (18 * L - lead f L)).map (fun j => Value.int .u8 (dgt f (18 * L - 1 - (lead f L + j)) : Int)) := by
  apply List.ext_getElem?
  intro j
  by_cases h : j < 18 * L - lead f L
  · simp [Lib.byteCells, bigText_get f L hL hf j h, h]
    have := dgt_hi f (18 * L - 1 - (lead f L + j))
    omega
  · have hl := bigText_len f L hL hf
    rw [List.getElem?_eq_none (by simp [Lib.byteCells]; omega), List.getElem?_eq_none (by simp; omega)]

/-- What decimalOfLimbs gives. -/
def decText (f : Nat → Nat) (L : Nat) : List UInt8 := if L = 0 then [48] else bigText f L

theorem fullText_eq (neg : Bool) (f : Nat → Nat) (L : Nat) : fullText neg f L = minusT (neg && decide (0 < L)) ++ decText f L := by
  unfold fullText decText
  by_cases h : L = 0
  · subst h; simp [minusT]
  · have : 0 < L := by omega
    simp [h, this]

/-- How decimalOfLimbs ends. -/
structure DecGen (T : List UInt8) (w : World) (e : Ending) (w' : World) : Prop where
  ex : ∃ g o c, e = .returned (.slice (some ⟨g, o, none⟩) T.length c) ∧ g < w'.heap.size ∧ ∀ j u, (Lib.byteCells T)[j]? = some u → w'.cell? ⟨g, o + j, none⟩ = some u
  bel : Below w.heap.size w w'

theorem dec_gen (la : Option Addr) (L c : Nat) (f : Nat → Nat) (w : World) (hL2 : L ≤ 65536) (hf : ∀ j, j < L → f j < 1000000000000000000) (htop : 0 < L → ¬ f (L - 1) = 0)
    (hc : 0 < L → ∃ lb lo, la = some ⟨lb, lo, none⟩ ∧ lb < w.heap.size ∧ ∀ j, j < L → w.cell? ⟨lb, lo + j, none⟩ = some (.int .u64 (f j))) :
    Calls Tryd.prog 15 #[.slice la L c] w (DecGen (decText f L) w) := by
  by_cases h0 : L = 0
  · subst h0
    refine (dec_zero la c w).mono ?_
    rintro e w' ⟨g, rfl, hcell, hg, hb⟩
    refine ⟨⟨g, 0, 1, rfl, hg, fun j u hj => ?_⟩, hb⟩
    match j, hj with
    | 0, hj =>
      simp [decText, Lib.byteCells] at hj
      subst hj
      exact hcell
  · have hL : 0 < L := by omega
    obtain ⟨lb, lo, rfl, hlb, hcell⟩ := hc hL
    refine (dec_any lb lo L c f w hL hL2 hlb hf hcell ⟨lead f L, by have := lead_lt f L; omega, lead_next f L hL hf (htop hL)⟩).mono ?_
    rintro e w' ⟨ld, hld, rfl, h1, h2, hrow, hb⟩
    have e1 := lead_uniq f L ld hL hf (htop hL) h1 h2
    subst e1
    have e2 : decText f L = bigText f L := by unfold decText; rw [if_neg h0]
    rw [e2]
    refine ⟨⟨w.heap.size, lead f L, 18 * L - lead f L, by rw [bigText_len f L hL hf], hrow.lt, fun j u hj => ?_⟩, hb⟩
    rw [bigText_cells f L hL hf] at hj
    have hjl := (List.getElem?_eq_some_iff.1 hj).1
    simp at hjl
    rw [hrow.cell (by omega)]
    simp [hjl] at hj
    rw [hj]
end Go.Proofs.Qxb6605555aDoor
