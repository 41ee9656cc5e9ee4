import Derived.Test.Qxb6605555aDoorPlain
namespace Go.Proofs.Qxb6605555aDoor
/-! The plain side of parseInteger. -/

/-- The number that k digits from lo on write. -/
def valI (z : Nat → Int) (lo : Nat) : Nat → Int
  | 0 => 0
  | k + 1 => valI z lo k * 10 + (z (lo + k) - 48)

theorem valI_lo (z : Nat → Int) (lo : Nat) : ∀ k, (∀ i, i < k → 48 ≤ z (lo + i)) → 0 ≤ valI z lo k
  | 0, _ => by simp [valI]
  | k + 1, h => by
    have := valI_lo z lo k (fun i hi => h i (by omega))
    have := h k (by omega)
    simp only [valI]; omega

theorem valI_hi (z : Nat → Int) (lo : Nat) : ∀ k, (∀ i, i < k → z (lo + i) ≤ 57) → valI z lo k + 1 ≤ ((10 ^ k : Nat) : Int)
  | 0, _ => by simp [valI]
  | k + 1, h => by
    have := valI_hi z lo k (fun i hi => h i (by omega))
    have := h k (by omega)
    simp only [valI, Nat.pow_succ]; omega

/-- Seventeen digits and one more stay below 10^18. -/
theorem valI_small (z : Nat → Int) (lo k : Nat) (hk : k ≤ 18) (h1 : ∀ i, i < k → 48 ≤ z (lo + i)) (h2 : ∀ i, i < k → z (lo + i) ≤ 57) : 0 ≤ valI z lo k ∧ valI z lo k ≤ 999999999999999999 := by
  refine ⟨valI_lo z lo k h1, ?_⟩
  have h := valI_hi z lo k h2
  have p : 10 ^ k ≤ 10 ^ 18 := Nat.pow_le_pow_right (by omega) hk
  have e : 10 ^ 18 = 1000000000000000000 := by decide
  omega

/-- The first digit not nought: the number is not nought. -/
theorem valI_pos (z : Nat → Int) (lo : Nat) (hf : 49 ≤ z lo) : ∀ k, (∀ i, i < k + 1 → 48 ≤ z (lo + i)) → 1 ≤ valI z lo (k + 1)
  | 0, _ => by simp [valI]; omega
  | k + 1, h => by
    have := valI_pos z lo hf k (fun i hi => h i (by omega))
    have := h (k + 1) (by omega)
    rw [valI]; omega

theorem valI_congr (z y : Nat → Int) (lo lo' : Nat) : ∀ k, (∀ i, i < k → z (lo + i) = y (lo' + i)) → valI z lo k = valI y lo' k
  | 0, _ => rfl
  | k + 1, h => by
    simp only [valI]
    rw [valI_congr z y lo lo' k (fun i hi => h i (by omega)), h k (by omega)]

/-- Limb k of m digits that begin at s: the least significant first. -/
def limbAt (z : Nat → Int) (s m k : Nat) : Int := valI z (s + (m - 18 * k - 18)) (m - 18 * k - (m - 18 * k - 18))

/-- How many limbs m digits take. -/
def limbN (m : Nat) : Nat := (m + 17) / 18

def limbs (z : Nat → Int) (s m q : Nat) : List Int := (List.range q).map (limbAt z s m)

theorem limbs_succ (z : Nat → Int) (s m q : Nat) : limbs z s m (q + 1) = limbs z s m q ++ [limbAt z s m q] := by
  simp [limbs, List.range_succ]

theorem limbs_length (z : Nat → Int) (s m q : Nat) : (limbs z s m q).length = q := by simp [limbs]

theorem limbs_get (z : Nat → Int) (s m q k : Nat) (h : k < q) : (limbs z s m q)[k]? = some (limbAt z s m k) := by simp [limbs, h]

theorem limbAt_small (z : Nat → Int) (s m k : Nat) (h1 : ∀ i, i < m → 48 ≤ z (s + i)) (h2 : ∀ i, i < m → z (s + i) ≤ 57) : 0 ≤ limbAt z s m k ∧ limbAt z s m k ≤ 999999999999999999 := by
  unfold limbAt
  refine valI_small z _ _ (by omega) (fun i hi => ?_) (fun i hi => ?_)
  · have := h1 (m - 18 * k - 18 + i) (by omega); rwa [← Nat.add_assoc] at this
  · have := h2 (m - 18 * k - 18 + i) (by omega); rwa [← Nat.add_assoc] at this

/-- The top limb of a numeral without leading nought. -/
theorem limbAt_top (z : Nat → Int) (s m : Nat) (hm : 0 < m) (hf : 49 ≤ z s) (h1 : ∀ i, i < m → 48 ≤ z (s + i)) : 1 ≤ limbAt z s m (limbN m - 1) := by
  unfold limbAt limbN
  have e : m - 18 * ((m + 17) / 18 - 1) - 18 = 0 := by omega
  obtain ⟨k, hk⟩ : ∃ k, m - 18 * ((m + 17) / 18 - 1) = k + 1 := ⟨m - 18 * ((m + 17) / 18 - 1) - 1, by omega⟩
  rw [e, hk, Nat.add_zero]
  show 1 ≤ valI z s (k + 1)
  exact valI_pos z s hf k (fun i hi => h1 i (by omega))

theorem limbAt_shift (z y : Nat → Int) (m k : Nat) (h : ∀ i, i < m → y (i + 1) = z i) : limbAt y 1 m k = limbAt z 0 m k := by
  unfold limbAt
  refine valI_congr y z _ _ _ (fun i hi => ?_)
  have e : 1 + (m - 18 * k - 18) + i = (m - 18 * k - 18 + i) + 1 := by omega
  rw [e, h _ (by omega), Nat.zero_add]

/-- A JSON integer: s is 1 behind a minus, else 0; m digits; no leading nought. -/
structure IsInt (z : Nat → Int) (n s m : Nat) : Prop where
  sn : n = s + m
  m0 : 0 < m
  sgn : (s = 1 ∧ z 0 = 45) ∨ (s = 0 ∧ ¬ z 0 = 45)
  lo : ∀ i, i < m → 48 ≤ z (s + i)
  hi : ∀ i, i < m → z (s + i) ≤ 57
  nought : z s = 48 → m = 1

theorem dropDig_all (z : Nat → Int) (n i : Nat) (hi : i ≤ n) (h : ∀ k, i ≤ k → k < n → digB (z k) = true) : dropDig ((zl z n).drop i) = [] := by
  rw [dropDig_to z n i n hi (Nat.le_refl _) h (fun q => by omega), zl_end z n n (Nat.le_refl _)]

theorem IsInt.intB {z : Nat → Int} {n s m : Nat} (h : IsInt z n s m) : intB ((zl z n).drop s) = true := by
  have hsn := h.sn
  have hm0 := h.m0
  have l0 := h.lo 0 hm0
  have h0 := h.hi 0 hm0
  rw [Nat.add_zero] at l0 h0
  have hd : ∀ k, s ≤ k → k < n → digB (z k) = true := fun k a b => by
    have q1 := h.lo (k - s) (by omega)
    have q2 := h.hi (k - s) (by omega)
    rw [show s + (k - s) = k by omega] at q1 q2
    simp [digB, q1, q2]
  rw [zl_drop z n s (by omega)]
  by_cases e : z s = 48
  · have := h.nought e
    rw [zl_end z n (s + 1) (by omega)]
    simp [Qxb6605555aDoor.intB, e, fracB]
  · have d : digB (z s) = true := hd s (Nat.le_refl _) (by omega)
    simp only [Qxb6605555aDoor.intB, if_neg e, d, if_true]
    rw [dropDig_all z n (s + 1) (by omega) (fun k a b => hd k (by omega) b)]
    rfl

theorem IsInt.numB {z : Nat → Int} {n s m : Nat} (h : IsInt z n s m) : numB (zl z n) = true := by
  have hi := h.intB
  have hsn := h.sn
  have hm0 := h.m0
  have e := zl_drop z n 0 (by omega)
  rw [List.drop_zero] at e
  rcases h.sgn with ⟨rfl, g⟩ | ⟨rfl, g⟩
  · rw [e]; simp only [Qxb6605555aDoor.numB, if_pos g]; exact hi
  · rw [List.drop_zero] at hi
    rw [e] at hi ⊢; simp only [Qxb6605555aDoor.numB, if_neg g]; exact hi
end Go.Proofs.Qxb6605555aDoor
