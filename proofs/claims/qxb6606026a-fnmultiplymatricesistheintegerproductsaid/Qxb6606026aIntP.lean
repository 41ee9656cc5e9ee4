import Derived.Test.Qxb6606026aFlt
import Derived.Test.Qxb6606026aMul
namespace Go.Proofs.Qxb6606026a

theorem exact_int {N M : Nat} {E : Int} (s : Bool) (h0 : 0 < N) (h1 : N < 2 ^ 53) (hE : -104 ≤ E) (h : M * 2 ^ (E + 104).toNat = N * 2 ^ 104) :
    ∃ m i, Ieee.double.read (Ieee.double.nearest s M E) = .number s m i ∧ -52 ≤ i ∧ i ≤ 0 ∧ m * 2 ^ (i + 52).toNat = N * 2 ^ 52 := by
  have hN : N ≠ 0 := by omega
  have hl : N.log2 < 53 := (Nat.log2_lt hN).2 h1
  have hm : N * 2 ^ (52 - N.log2) ≠ 0 := Nat.mul_ne_zero hN (by have := Nat.two_pow_pos (52 - N.log2); omega)
  have hlm : (N * 2 ^ (52 - N.log2)).log2 = 52 := by rw [log2_shift _ _ hN]; omega
  obtain ⟨g1, g2⟩ := (Nat.log2_eq_iff hm).1 hlm
  have e52 : (2 : Nat) ^ 52 = 4503599627370496 := by decide
  have e53 : (2 : Nat) ^ (52 + 1) = 9007199254740992 := by decide
  refine ⟨N * 2 ^ (52 - N.log2), (N.log2 : Int) - 52, nearest_norm (.inr ⟨by omega, by omega, by omega, by omega⟩) hm ?_, by omega, by omega, ?_⟩
  · have hd : N * 2 ^ (52 - N.log2) * 2 ^ (N.log2 + 52) = N * 2 ^ 104 := by
      rw [Nat.mul_assoc, ← Nat.pow_add]
      congr 2
      omega
    rw [← hd] at h
    generalize N * 2 ^ (52 - N.log2) = m at *
    by_cases hc : (N.log2 : Int) - 52 ≤ E
    · rw [show ((N.log2 : Int) - 52 - E).toNat = 0 by omega, Nat.pow_zero, Nat.mul_one]
      rw [show (E + 104).toNat = (E - ((N.log2 : Int) - 52)).toNat + (N.log2 + 52) by omega, Nat.pow_add, ← Nat.mul_assoc] at h
      exact Nat.eq_of_mul_eq_mul_right (Nat.two_pow_pos _) h
    · rw [show (E - ((N.log2 : Int) - 52)).toNat = 0 by omega, Nat.pow_zero, Nat.mul_one]
      rw [show N.log2 + 52 = ((N.log2 : Int) - 52 - E).toNat + (E + 104).toNat by omega, Nat.pow_add, ← Nat.mul_assoc] at h
      exact Nat.eq_of_mul_eq_mul_right (Nat.two_pow_pos _) h
  · rw [Nat.mul_assoc, ← Nat.pow_add]
    congr 2
    omega

/-- The float is the integer. -/
def Rep (x : Nat) (n : Int) : Prop :=
  (n = 0 ∧ Zero x) ∨ (n ≠ 0 ∧ ∃ m i, Ieee.double.read x = .number (decide (n < 0)) m i ∧ -52 ≤ i ∧ i ≤ 0 ∧ m * 2 ^ (i + 52).toNat = n.natAbs * 2 ^ 52)

theorem rep_of (n : Int) (h : n.natAbs < 2 ^ 53) : Rep (floatOfInt .f64 n) n := by
  show Rep (Ieee.double.nearest (decide (n < 0)) n.natAbs 0) n
  by_cases hn : n = 0
  · subst hn
    exact .inl ⟨rfl, _, nearest_zero _ _⟩
  · exact .inr ⟨hn, exact_int _ (by omega) h (by omega) (by rw [show ((0 : Int) + 104).toNat = 104 from rfl])⟩

theorem rep_read {x : Nat} {n : Int} (h : Rep x n) : ∃ s m i, Ieee.double.read x = .number s m i := by
  rcases h with ⟨_, s, h⟩ | ⟨_, m, i, h, _⟩
  · exact ⟨_, _, _, h⟩
  · exact ⟨_, _, _, h⟩

theorem sign_mul {a b : Int} (ha : a ≠ 0) (hb : b ≠ 0) : (decide (a < 0) ^^ decide (b < 0)) = decide (a * b < 0) := by
  rcases Int.lt_or_gt_of_ne ha with h1 | h1 <;> rcases Int.lt_or_gt_of_ne hb with h2 | h2
  · have := Int.mul_pos_of_neg_of_neg h1 h2
    rw [decide_eq_true h1, decide_eq_true h2, decide_eq_false (by omega)]; rfl
  · have := Int.mul_neg_of_neg_of_pos h1 h2
    rw [decide_eq_true h1, decide_eq_false (show ¬ b < 0 by omega), decide_eq_true this]; rfl
  · have := Int.mul_neg_of_pos_of_neg h1 h2
    rw [decide_eq_false (show ¬ a < 0 by omega), decide_eq_true h2, decide_eq_true this]; rfl
  · have := Int.mul_pos h1 h2
    rw [decide_eq_false (show ¬ a < 0 by omega), decide_eq_false (show ¬ b < 0 by omega), decide_eq_false (by omega)]; rfl

theorem rep_mul {x y r : Nat} {a b : Int} (hx : Rep x a) (hy : Rep y b) (hab : (a * b).natAbs < 2 ^ 53) (h : FRel .mul x y r) : Rep r (a * b) := by
  rcases hx with ⟨rfl, hx⟩ | ⟨ha, m, i, hx, i1, i2, hm⟩
  · obtain ⟨s, m, i, hy⟩ := rep_read hy
    rw [Int.zero_mul]
    exact .inl ⟨rfl, zero_mul hy hx h⟩
  · rcases hy with ⟨rfl, hy⟩ | ⟨hb, n, j, hy, j1, j2, hn⟩
    · rw [Int.mul_zero]
      exact .inl ⟨rfl, mul_zero hx hy h⟩
    · refine .inr ⟨Int.mul_ne_zero ha hb, ?_⟩
      rw [frel_mul hx hy h, sign_mul ha hb]
      refine exact_int _ ?_ hab (by omega) ?_
      · have := Int.mul_ne_zero ha hb
        omega
      · rw [show (i + j + 104).toNat = (i + 52).toNat + (j + 52).toNat by omega, Nat.pow_add, Int.natAbs_mul]
        have this : m * 2 ^ (i + 52).toNat * (n * 2 ^ (j + 52).toNat) = a.natAbs * 2 ^ 52 * (b.natAbs * 2 ^ 52) := by rw [hm, hn]
        rw [show (2 : Nat) ^ 104 = 2 ^ 52 * 2 ^ 52 by rw [← Nat.pow_add]]
        calc m * n * (2 ^ (i + 52).toNat * 2 ^ (j + 52).toNat) = m * 2 ^ (i + 52).toNat * (n * 2 ^ (j + 52).toNat) := Nat.mul_mul_mul_comm ..
          _ = a.natAbs * 2 ^ 52 * (b.natAbs * 2 ^ 52) := this
          _ = a.natAbs * b.natAbs * (2 ^ 52 * 2 ^ 52) := Nat.mul_mul_mul_comm ..

theorem signed_val {a : Int} {m v u : Nat} (h : m * 2 ^ (v + u) = a.natAbs * 2 ^ 52) : Ieee.signed (decide (a < 0)) m v * ((2 ^ u : Nat) : Int) = a * ((2 ^ 52 : Nat) : Int) := by
  unfold Ieee.signed
  rw [Nat.shiftLeft_eq]
  rw [Nat.pow_add, ← Nat.mul_assoc] at h
  generalize (2 : Nat) ^ 52 = K at *
  generalize m * 2 ^ v = q at *
  generalize (2 : Nat) ^ u = t at *
  have hz : (q : Int) * (t : Int) = (a.natAbs : Int) * (K : Int) := by exact_mod_cast h
  by_cases hneg : a < 0
  · rw [decide_eq_true hneg, if_pos rfl, Int.neg_mul, hz, show a = -(a.natAbs : Int) by omega, Int.neg_mul]
    simp
  · rw [decide_eq_false hneg]
    show (q : Int) * (t : Int) = _
    rw [hz, show (a.natAbs : Int) = a by omega]

theorem rep_add {x y r : Nat} {a b : Int} (hx : Rep x a) (hy : Rep y b) (hab : (a + b).natAbs < 2 ^ 53) (h : FRel .add x y r) : Rep r (a + b) := by
  rcases hx with ⟨rfl, hx⟩ | ⟨ha, m, i, hx, i1, i2, hm⟩
  · rw [Int.zero_add]
    rcases hy with ⟨rfl, t, hy⟩ | ⟨hb, n, j, hy, j1, j2, hn⟩
    · rcases zero_add hx hy h with ⟨_, h⟩ | ⟨h, _⟩
      · exact .inl ⟨rfl, h⟩
      · exact absurd rfl h
    · rcases zero_add hx hy h with ⟨h0, _⟩ | ⟨_, h⟩
      · subst h0
        rw [Nat.zero_mul] at hn
        exact absurd hn.symm (Nat.mul_ne_zero (by omega) (by decide))
      · exact .inr ⟨hb, n, j, h, j1, j2, hn⟩
  · rcases hy with ⟨rfl, hy⟩ | ⟨hb, n, j, hy, j1, j2, hn⟩
    · rw [Int.add_zero]
      have hm0 : m ≠ 0 := by
        rintro rfl
        rw [Nat.zero_mul] at hm
        exact absurd hm.symm (Nat.mul_ne_zero (by omega) (by decide))
      exact .inr ⟨ha, m, i, add_zero hx hm0 hy h, i1, i2, hm⟩
    · have e := frel_add hx hy h
      have va := signed_val (a := a) (m := m) (v := (i - min i j).toNat) (u := (min i j + 52).toNat) (by rw [show (i - min i j).toNat + (min i j + 52).toNat = (i + 52).toNat by omega]; exact hm)
      have vb := signed_val (a := b) (m := n) (v := (j - min i j).toNat) (u := (min i j + 52).toNat) (by rw [show (j - min i j).toNat + (min i j + 52).toNat = (j + 52).toNat by omega]; exact hn)
      have hT : (Ieee.signed (decide (a < 0)) m (i - min i j).toNat + Ieee.signed (decide (b < 0)) n (j - min i j).toNat) * ((2 ^ (min i j + 52).toNat : Nat) : Int) = (a + b) * ((2 ^ 52 : Nat) : Int) := by
        rw [Int.add_mul, va, vb, Int.add_mul]
      generalize Ieee.signed (decide (a < 0)) m (i - min i j).toNat + Ieee.signed (decide (b < 0)) n (j - min i j).toNat = T at *
      have hp : 0 < (2 : Nat) ^ (min i j + 52).toNat := Nat.two_pow_pos _
      have hK : 0 < (2 : Nat) ^ 52 := Nat.two_pow_pos _
      have hA : T.natAbs * 2 ^ (min i j + 52).toNat = (a + b).natAbs * 2 ^ 52 := by
        have := congrArg Int.natAbs hT
        rwa [Int.natAbs_mul, Int.natAbs_mul, Int.natAbs_natCast, Int.natAbs_natCast] at this
      by_cases h0 : a + b = 0
      · have hT0 : T = 0 := by
          rw [h0] at hA
          simp only [Int.natAbs_zero, Nat.zero_mul] at hA
          rcases Nat.mul_eq_zero.1 hA with q | q
          · omega
          · omega
        rw [e, hT0]
        exact .inl ⟨h0, _, nearest_zero _ _⟩
      · have hT0 : T ≠ 0 := by
          rintro rfl
          rw [Int.zero_mul] at hT
          exact absurd hT.symm (Int.mul_ne_zero h0 (by omega))
        have hs : decide (T < 0) = decide (a + b < 0) := by
          rcases Int.lt_or_gt_of_ne hT0 with q | q
          · have h1 : T * ((2 ^ (min i j + 52).toNat : Nat) : Int) < 0 := Int.mul_neg_of_neg_of_pos q (by omega)
            rw [hT] at h1
            have h2 : a + b < 0 := by
              rcases Int.lt_or_gt_of_ne h0 with z | z
              · exact z
              · have := Int.mul_pos z (show (0 : Int) < ((2 ^ 52 : Nat) : Int) by omega)
                omega
            rw [decide_eq_true q, decide_eq_true h2]
          · have h1 : 0 < T * ((2 ^ (min i j + 52).toNat : Nat) : Int) := Int.mul_pos q (by omega)
            rw [hT] at h1
            have h2 : ¬ a + b < 0 := fun z => by
              have := Int.mul_neg_of_neg_of_pos z (show (0 : Int) < ((2 ^ 52 : Nat) : Int) by omega)
              omega
            rw [decide_eq_false (show ¬ T < 0 by omega), decide_eq_false h2]
        rw [if_neg hT0, hs] at e
        rw [e]
        refine .inr ⟨h0, exact_int _ (by omega) hab (by omega) ?_⟩
        rw [show (min i j + 104).toNat = (min i j + 52).toNat + 52 by omega, Nat.pow_add, ← Nat.mul_assoc, hA, Nat.mul_assoc, ← Nat.pow_add]

theorem rep_order {x y : Nat} {n : Int} (hx : Rep x n) (hy : Rep y n) : Ieee.double.order x y = some .eq := by
  rcases hx with ⟨h0, s, hx⟩ | ⟨h0, m, i, hx, i1, i2, hm⟩
  · rcases hy with ⟨_, t, hy⟩ | ⟨h1, _⟩
    · unfold Ieee.Format.order
      rw [hx, hy]
      simp only [Ieee.Datum.order, signed_zero]
      rfl
    · exact absurd h0 h1
  · rcases hy with ⟨h1, _⟩ | ⟨_, m', j, hy, j1, j2, hm'⟩
    · exact absurd h1 h0
    · unfold Ieee.Format.order
      rw [hx, hy]
      simp only [Ieee.Datum.order]
      have va := signed_val (a := n) (m := m) (v := (i - min i j).toNat) (u := (min i j + 52).toNat) (by rw [show (i - min i j).toNat + (min i j + 52).toNat = (i + 52).toNat by omega]; exact hm)
      have vb := signed_val (a := n) (m := m') (v := (j - min i j).toNat) (u := (min i j + 52).toNat) (by rw [show (j - min i j).toNat + (min i j + 52).toNat = (j + 52).toNat by omega]; exact hm')
      have hp : 0 < (2 : Nat) ^ (min i j + 52).toNat := Nat.two_pow_pos _
      rw [Int.eq_of_mul_eq_mul_right (by omega) (va.trans vb.symm)]
      congr 1
      exact Std.ReflCmp.compare_self

/-- The integer sum. -/
def psum (A B : Nat → Nat → Int) (i j : Nat) : Nat → Int
  | 0 => 0
  | k + 1 => psum A B i j k + A i k * B k j

def I16 (a : Int) : Prop := -32768 ≤ a ∧ a ≤ 32767

theorem mul_small {a b : Int} (ha : I16 a) (hb : I16 b) : (a * b).natAbs ≤ 1073741824 := by
  rw [Int.natAbs_mul]
  unfold I16 at ha hb
  have := Nat.mul_le_mul (show a.natAbs ≤ 32768 by omega) (show b.natAbs ≤ 32768 by omega)
  omega

theorem psum_small {A B : Nat → Nat → Int} {n i j : Nat} (hA : ∀ a b, a < n → b < n → I16 (A a b)) (hB : ∀ a b, a < n → b < n → I16 (B a b)) (hi : i < n) (hj : j < n) :
    ∀ k, k ≤ n → (psum A B i j k).natAbs ≤ k * 1073741824 := by
  intro k
  induction k with
  | zero => intro _; simp [psum]
  | succ k ih =>
    intro hk
    have h1 := ih (by omega)
    have h2 := mul_small (hA i k hi (by omega)) (hB k j (by omega) hj)
    show (psum A B i j k + A i k * B k j).natAbs ≤ _
    generalize psum A B i j k = p at *
    generalize A i k * B k j = q at *
    omega

theorem acc_int {A B : Nat → Nat → Int} {X Y : Nat → Nat → Nat} {n i j : Nat} (hn : n ≤ 256) (hA : ∀ a b, a < n → b < n → I16 (A a b)) (hB : ∀ a b, a < n → b < n → I16 (B a b))
    (hX : ∀ a b, a < n → b < n → X a b = floatOfInt .f64 (A a b)) (hY : ∀ a b, a < n → b < n → Y a b = floatOfInt .f64 (B a b)) (hi : i < n) (hj : j < n) :
    ∀ k, k ≤ n → ∀ r, Acc X Y i j k r → Rep r (psum A B i j k) := by
  have e53 : (2 : Nat) ^ 53 = 9007199254740992 := by decide
  intro k
  induction k with
  | zero => intro _ r h; exact .inl ⟨rfl, by rw [show r = 0 from h]; exact ⟨false, by decide⟩⟩
  | succ k ih =>
    intro hk r h
    obtain ⟨r0, p, g1, g2, g3⟩ := h
    have ha := hA i k hi (by omega)
    have hb := hB k j (by omega) hj
    rw [hX i k hi (by omega), hY k j (by omega) hj] at g2
    have hs := mul_small ha hb
    have hp := rep_mul (rep_of (A i k) (by unfold I16 at ha; omega)) (rep_of (B k j) (by unfold I16 at hb; omega)) (by omega) g2
    have hq := psum_small hA hB hi hj (k + 1) hk
    exact rep_add (ih (by omega) r0 g1) hp (show (psum A B i j (k + 1)).natAbs < 2 ^ 53 by omega) g3
end Go.Proofs.Qxb6606026a
