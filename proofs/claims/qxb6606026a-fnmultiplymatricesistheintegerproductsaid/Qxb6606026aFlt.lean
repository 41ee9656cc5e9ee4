import Derived.Test.Qxb6606026aSame
namespace Go.Proofs.Qxb6606026a

theorem d_sw : Ieee.double.signWeight = 9223372036854775808 := by decide
theorem d_bin : Ieee.double.binade = 4503599627370496 := by decide
theorem d_inf : Ieee.double.infRung = 9218868437227405312 := by decide
theorem d_lp : Ieee.double.leastPlace = -1074 := by decide
theorem d_fb : Ieee.double.fractionBits = 52 := rfl

/-- A finite number as the format has it. -/
def Norm (m : Nat) (i : Int) : Prop := (m < 4503599627370496 ∧ i = -1074) ∨ (4503599627370496 ≤ m ∧ m < 9007199254740992 ∧ -1074 ≤ i ∧ i ≤ 971)

theorem read_norm {x m : Nat} {s : Bool} {i : Int} (h : Ieee.double.read x = .number s m i) : Norm m i := by
  unfold Ieee.Format.read at h
  simp only [d_sw, d_bin, d_inf, d_lp] at h
  split at h
  · rename_i h1
    cases h
    exact .inl ⟨h1, rfl⟩
  · split at h
    · rename_i h1 h2
      cases h
      refine .inr ⟨by omega, by omega, by omega, by omega⟩
    · split at h <;> cases h

theorem read_word (s : Bool) (m : Nat) (i : Int) (h : Norm m i) : Ieee.double.read (Ieee.double.word s ((i + 1074).toNat * 4503599627370496 + m)) = .number s m i := by
  have hlt : (i + 1074).toNat * 4503599627370496 + m < 9218868437227405312 := by
    rcases h with ⟨h1, rfl⟩ | ⟨h1, h2, h3, h4⟩ <;> omega
  have hw : Ieee.double.word s ((i + 1074).toNat * 4503599627370496 + m) / 9223372036854775808 % 2 = s.toNat ∧ Ieee.double.word s ((i + 1074).toNat * 4503599627370496 + m) % 9223372036854775808 = (i + 1074).toNat * 4503599627370496 + m := by
    unfold Ieee.Format.word
    rw [d_sw]
    cases s
    · simp only [Bool.toNat_false]
      refine ⟨?_, ?_⟩ <;> simp <;> omega
    · simp only [if_true, Bool.toNat_true]
      omega
  unfold Ieee.Format.read
  simp only [d_sw, d_bin, d_inf, d_lp, hw.1, hw.2]
  have hs : (s.toNat == 1) = s := by cases s <;> rfl
  rw [hs]
  rcases h with ⟨h1, rfl⟩ | ⟨h1, h2, h3, h4⟩
  · rw [if_pos (by omega)]
    congr 1
    omega
  · rw [if_neg (by omega), if_pos (by omega)]
    congr 1
    · omega
    · omega

theorem log2_shift (M k : Nat) (h : M ≠ 0) : (M * 2 ^ k).log2 = M.log2 + k := by
  have h1 := Nat.log2_self_le h
  have h2 : M < 2 ^ (M.log2 + 1) := Nat.lt_log2_self
  have hp : 0 < 2 ^ k := Nat.two_pow_pos k
  have hM : M * 2 ^ k ≠ 0 := Nat.mul_ne_zero h (by omega)
  refine (Nat.log2_eq_iff hM).2 ⟨?_, ?_⟩
  · rw [Nat.pow_add]
    exact Nat.mul_le_mul_right _ h1
  · rw [Nat.add_right_comm, Nat.pow_add]
    exact Nat.mul_lt_mul_of_pos_right h2 hp

theorem cut_exact (s : Bool) (m k : Nat) (h : m ≠ 0) : Ieee.Toward.even.cut s (m * 2 ^ k) k = m := by
  have hp : 0 < 2 ^ k := Nat.two_pow_pos k
  have hmin : min k ((m * 2 ^ k).log2 + 2) = k := by
    rw [log2_shift m k h]
    omega
  unfold Ieee.Toward.cut
  simp only [hmin, Nat.shiftLeft_eq, Nat.one_mul, Nat.mul_mod_left, Nat.mul_div_cancel _ hp, Nat.mul_zero]
  have e1 : decide (2 ^ k < 0) = false := by simp
  have e2 : (2 ^ k == 0) = false := beq_eq_false_iff_ne.2 (by omega)
  rw [e1, e2]
  rfl

theorem nearest_norm {s : Bool} {m M : Nat} {i E : Int} (hN : Norm m i) (hm : m ≠ 0) (he : M * 2 ^ (E - i).toNat = m * 2 ^ (i - E).toNat) : Ieee.double.read (Ieee.double.nearest s M E) = .number s m i := by
  have hM : M ≠ 0 := by
    rintro rfl
    rw [Nat.zero_mul] at he
    exact absurd he.symm (Nat.mul_ne_zero hm (by have := Nat.two_pow_pos (i - E).toNat; omega))
  have hl : (M.log2 : Int) + ((E - i).toNat : Int) = (m.log2 : Int) + ((i - E).toNat : Int) := by
    have := congrArg Nat.log2 he
    rw [log2_shift _ _ hM, log2_shift _ _ hm] at this
    omega
  have hlast : max (E + (M.log2 : Int) - 52) (-1074) = i := by
    rcases hN with ⟨h1, rfl⟩ | ⟨h1, h2, h3, h4⟩
    · have : m.log2 < 52 := (Nat.log2_lt hm).2 h1
      omega
    · have : m.log2 = 52 := (Nat.log2_eq_iff hm).2 ⟨h1, h2⟩
      omega
  unfold Ieee.Format.nearest
  rw [if_neg hM]
  simp only [d_fb, d_lp, d_bin, d_inf]
  rw [show ((52 : Nat) : Int) = 52 from rfl, hlast, Nat.shiftLeft_eq, he, cut_exact s m _ hm]
  have hlt : (i + 1074).toNat * 4503599627370496 + m < 9218868437227405312 := by
    rcases hN with ⟨h1, rfl⟩ | ⟨h1, h2, h3, h4⟩ <;> omega
  rw [show i - -1074 = i + 1074 by omega, Nat.min_eq_left (by omega)]
  exact read_word s m i hN

/-- A zero of either sign. -/
def Zero (r : Nat) : Prop := ∃ s, Ieee.double.read r = .number s 0 (-1074)

theorem nearest_zero (s : Bool) (E : Int) : Ieee.double.read (Ieee.double.nearest s 0 E) = .number s 0 (-1074) := by
  unfold Ieee.Format.nearest
  rw [if_pos rfl]
  exact read_word s 0 (-1074) (.inl ⟨by omega, rfl⟩)

theorem zero_of_read {x : Nat} {s : Bool} {i : Int} (h : Ieee.double.read x = .number s 0 i) : Zero x := by
  rcases read_norm h with ⟨_, rfl⟩ | ⟨h1, _⟩
  · exact ⟨s, h⟩
  · omega

/-- What a valid operation gives, read. -/
theorem frel_add {x y r m n : Nat} {s t : Bool} {i j : Int} (hx : Ieee.double.read x = .number s m i) (hy : Ieee.double.read y = .number t n j) (h : FRel .add x y r) :
    r = Ieee.double.write (.number (if Ieee.signed s m (i - min i j).toNat + Ieee.signed t n (j - min i j).toNat = 0 then s && t else Ieee.signed s m (i - min i j).toNat + Ieee.signed t n (j - min i j).toNat < 0)
      (Ieee.signed s m (i - min i j).toNat + Ieee.signed t n (j - min i j).toNat).natAbs (min i j)) := by
  have e : floatBits .add .f64 x y = some (Ieee.double.write (.number (if Ieee.signed s m (i - min i j).toNat + Ieee.signed t n (j - min i j).toNat = 0 then s && t else Ieee.signed s m (i - min i j).toNat + Ieee.signed t n (j - min i j).toNat < 0)
      (Ieee.signed s m (i - min i j).toNat + Ieee.signed t n (j - min i j).toNat).natAbs (min i j))) := by
    show Ieee.double.add x y = _
    unfold Ieee.Format.add
    rw [hx, hy]
    rfl
  rcases h with h | ⟨h, _⟩
  · rw [e] at h
    exact (Option.some.inj h).symm
  · rw [e] at h; cases h

theorem frel_mul {x y r m n : Nat} {s t : Bool} {i j : Int} (hx : Ieee.double.read x = .number s m i) (hy : Ieee.double.read y = .number t n j) (h : FRel .mul x y r) :
    r = Ieee.double.nearest (s ^^ t) (m * n) (i + j) := by
  have e : floatBits .mul .f64 x y = some (Ieee.double.nearest (s ^^ t) (m * n) (i + j)) := by
    show Ieee.double.mul x y = _
    unfold Ieee.Format.mul
    rw [hx, hy]
    rfl
  rcases h with h | ⟨h, _⟩
  · rw [e] at h
    exact (Option.some.inj h).symm
  · rw [e] at h; cases h

theorem signed_zero (s : Bool) (u : Nat) : Ieee.signed s 0 u = 0 := by
  unfold Ieee.signed
  rw [Nat.zero_shiftLeft]
  cases s <;> rfl

theorem signed_abs (s : Bool) (m u : Nat) : (Ieee.signed s m u).natAbs = m * 2 ^ u := by
  unfold Ieee.signed
  rw [Nat.shiftLeft_eq]
  generalize m * 2 ^ u = q
  cases s
  · show ((q : Nat) : Int).natAbs = q
    omega
  · show (-((q : Nat) : Int)).natAbs = q
    omega

theorem signed_neg (s : Bool) (m u : Nat) (h : m ≠ 0) : decide (Ieee.signed s m u < 0) = s := by
  have hp : 0 < m * 2 ^ u := Nat.mul_pos (by omega) (Nat.two_pow_pos u)
  unfold Ieee.signed
  rw [Nat.shiftLeft_eq]
  generalize m * 2 ^ u = q at *
  cases s
  · show decide (((q : Nat) : Int) < 0) = false
    exact decide_eq_false (by omega)
  · show decide (-((q : Nat) : Int) < 0) = true
    exact decide_eq_true (by omega)

theorem signed_ne (s : Bool) (m u : Nat) (h : m ≠ 0) : Ieee.signed s m u ≠ 0 := by
  have hp : 0 < m * 2 ^ u := Nat.mul_pos (by omega) (Nat.two_pow_pos u)
  have := signed_abs s m u
  intro e
  rw [e] at this
  simp at this
  omega

/-- zero + y. -/
theorem zero_add {x y r n : Nat} {t : Bool} {j : Int} (hx : Zero x) (hy : Ieee.double.read y = .number t n j) (h : FRel .add x y r) : (n = 0 ∧ Zero r) ∨ (n ≠ 0 ∧ Ieee.double.read r = .number t n j) := by
  obtain ⟨s, hx⟩ := hx
  have e := frel_add hx hy h
  have hN := read_norm hy
  have hj : -1074 ≤ j := by rcases hN with ⟨_, rfl⟩ | ⟨_, _, h, _⟩ <;> omega
  rw [signed_zero, show min (-1074) j = -1074 by omega, Int.zero_add] at e
  by_cases hn : n = 0
  · subst hn
    refine .inl ⟨rfl, ?_⟩
    rw [signed_zero, if_pos rfl] at e
    rw [e]
    exact ⟨_, nearest_zero _ _⟩
  · refine .inr ⟨hn, ?_⟩
    rw [if_neg (signed_ne t n _ hn), signed_abs, signed_neg t n _ hn] at e
    rw [e]
    refine nearest_norm hN hn ?_
    rw [show ((-1074 : Int) - j).toNat = 0 by omega, Nat.pow_zero, Nat.mul_one]

/-- x + zero. -/
theorem add_zero {x y r m : Nat} {s : Bool} {i : Int} (hx : Ieee.double.read x = .number s m i) (hm : m ≠ 0) (hy : Zero y) (h : FRel .add x y r) : Ieee.double.read r = .number s m i := by
  obtain ⟨t, hy⟩ := hy
  have e := frel_add hx hy h
  have hN := read_norm hx
  have hj : -1074 ≤ i := by rcases hN with ⟨_, rfl⟩ | ⟨_, _, h, _⟩ <;> omega
  rw [signed_zero, show min i (-1074) = -1074 by omega, Int.add_zero, if_neg (signed_ne s m _ hm), signed_abs, signed_neg s m _ hm] at e
  rw [e]
  refine nearest_norm hN hm ?_
  rw [show ((-1074 : Int) - i).toNat = 0 by omega, Nat.pow_zero, Nat.mul_one]

/-- x * zero. -/
theorem mul_zero {x y r m : Nat} {s : Bool} {i : Int} (hx : Ieee.double.read x = .number s m i) (hy : Zero y) (h : FRel .mul x y r) : Zero r := by
  obtain ⟨t, hy⟩ := hy
  rw [frel_mul hx hy h, Nat.mul_zero]
  exact ⟨_, nearest_zero _ _⟩

theorem zero_mul {x y r m : Nat} {s : Bool} {i : Int} (hx : Ieee.double.read x = .number s m i) (hy : Zero y) (h : FRel .mul y x r) : Zero r := by
  obtain ⟨t, hy⟩ := hy
  rw [frel_mul hy hx h, Nat.zero_mul]
  exact ⟨_, nearest_zero _ _⟩

/-- x * 1 and 1 * x. -/
theorem mul_one {x y r m : Nat} {s : Bool} {i : Int} (hx : Ieee.double.read x = .number s m i) (hy : Ieee.double.read y = .number false 4503599627370496 (-52)) (h : FRel .mul x y r) : (m = 0 ∧ Zero r) ∨ (m ≠ 0 ∧ Ieee.double.read r = .number s m i) := by
  rw [frel_mul hx hy h, Bool.xor_false]
  by_cases hm : m = 0
  · subst hm
    rw [Nat.zero_mul]
    exact .inl ⟨rfl, _, nearest_zero _ _⟩
  · refine .inr ⟨hm, nearest_norm (read_norm hx) hm ?_⟩
    rw [show (i + -52 - i).toNat = 0 by omega, show (i - (i + -52)).toNat = 52 by omega, Nat.pow_zero, Nat.mul_one]

theorem one_mul {x y r m : Nat} {s : Bool} {i : Int} (hx : Ieee.double.read x = .number s m i) (hy : Ieee.double.read y = .number false 4503599627370496 (-52)) (h : FRel .mul y x r) : (m = 0 ∧ Zero r) ∨ (m ≠ 0 ∧ Ieee.double.read r = .number s m i) := by
  rw [frel_mul hy hx h, Bool.false_xor]
  by_cases hm : m = 0
  · subst hm
    rw [Nat.mul_zero]
    exact .inl ⟨rfl, _, nearest_zero _ _⟩
  · refine .inr ⟨hm, nearest_norm (read_norm hx) hm ?_⟩
    rw [show (-52 + i - i).toNat = 0 by omega, show (i - (-52 + i)).toNat = 52 by omega, Nat.pow_zero, Nat.mul_one, Nat.mul_comm]
end Go.Proofs.Qxb6606026a
