import Derived.Test.Qxb6605555aDoorPlain
namespace Go.Proofs.Qxb6605555aDoor
/-! The plain reader over an index. -/
variable (z : Nat → Int) (n : Nat)

theorem num_minus (h : 0 < n) (m : z 0 = 45) : numB (zl z n) = intB ((zl z n).drop 1) := by
  have e := zl_drop z n 0 h
  rw [List.drop_zero] at e
  rw [e]; simp [numB, m]
theorem num_plain (h : 0 < n) (m : ¬ z 0 = 45) : numB (zl z n) = intB ((zl z n).drop 0) := by
  have e := zl_drop z n 0 h
  rw [e]; rw [List.drop_zero] at e
  rw [e]; simp [numB, m]
theorem int_none (i : Nat) (h : n ≤ i) : intB ((zl z n).drop i) = false := by rw [zl_end z n i h]; rfl
theorem int_zero (i : Nat) (h : i < n) (e : z i = 48) : intB ((zl z n).drop i) = fracB ((zl z n).drop (i + 1)) := by
  rw [zl_drop z n i h]; simp [intB, e]
theorem int_bad (i : Nat) (h : i < n) (e : ¬ (48 ≤ z i ∧ z i ≤ 57)) : intB ((zl z n).drop i) = false := by
  have d : digB (z i) = false := by simp [digB]; omega
  have e' : ¬ z i = 48 := by omega
  rw [zl_drop z n i h]; simp [intB, e', d]
theorem int_dig (i j : Nat) (h : i < n) (e1 : 49 ≤ z i) (e2 : z i ≤ 57) (hij : i ≤ j) (hn : j ≤ n) (hd : ∀ k, i ≤ k → k < j → digB (z k) = true) (he : j < n → digB (z j) = false) : intB ((zl z n).drop i) = fracB ((zl z n).drop j) := by
  have d : digB (z i) = true := by simp [digB]; omega
  have hlt : i < j := by
    rcases Nat.lt_or_eq_of_le hij with g | g
    · exact g
    · subst g; rw [he h] at d; cases d
  have e' : ¬ z i = 48 := by omega
  rw [zl_drop z n i h]
  simp only [intB, if_neg e', d, if_true]
  rw [dropDig_to z n (i + 1) j (by omega) hn (fun k a b => hd k (by omega) b) he]
theorem frac_skip (i : Nat) (h : ¬ (i < n ∧ z i = 46)) : fracB ((zl z n).drop i) = expoB ((zl z n).drop i) := by
  by_cases g : i < n
  · have e : ¬ z i = 46 := fun e => h ⟨g, e⟩
    rw [zl_drop z n i g]; simp [fracB, e]
  · rw [zl_end z n i (by omega)]; rfl
theorem frac_bad (i : Nat) (h : i < n) (e : z i = 46) (he : i + 1 < n → digB (z (i + 1)) = false) : fracB ((zl z n).drop i) = false := by
  rw [zl_drop z n i h]
  by_cases g : i + 1 < n
  · rw [zl_drop z n (i + 1) g]; simp [fracB, e, he g]
  · rw [zl_end z n (i + 1) (by omega)]; simp [fracB, e]
theorem frac_go (i j : Nat) (h : i < n) (e : z i = 46) (hij : i + 1 < j) (hn : j ≤ n) (hd : ∀ k, i + 1 ≤ k → k < j → digB (z k) = true) (he : j < n → digB (z j) = false) : fracB ((zl z n).drop i) = expoB ((zl z n).drop j) := by
  have d := hd (i + 1) (Nat.le_refl _) hij
  rw [zl_drop z n i h, zl_drop z n (i + 1) (by omega)]
  simp only [fracB, if_pos e, d, if_true]
  rw [dropDig_to z n (i + 1 + 1) j (by omega) hn (fun k a b => hd k (by omega) b) he]
theorem expo_skip (i : Nat) (hi : i ≤ n) (h : ¬ (i < n ∧ (z i = 101 ∨ z i = 69))) : expoB ((zl z n).drop i) = (i == n) := by
  by_cases g : i < n
  · have e : ¬ (z i = 101 ∨ z i = 69) := fun e => h ⟨g, e⟩
    rw [zl_drop z n i g]; simp [expoB, e]; omega
  · rw [zl_end z n i (by omega)]
    have : i = n := by omega
    simp [expoB, this]
theorem expo_sign (i : Nat) (h : i < n) (e : z i = 101 ∨ z i = 69) (h1 : i + 1 < n) (s : z (i + 1) = 43 ∨ z (i + 1) = 45) : expoB ((zl z n).drop i) = tailB ((zl z n).drop (i + 2)) := by
  rw [zl_drop z n i h, zl_drop z n (i + 1) h1]
  simp only [expoB, if_pos e, if_pos s]
theorem expo_bare (i : Nat) (h : i < n) (e : z i = 101 ∨ z i = 69) (s : ¬ (i + 1 < n ∧ (z (i + 1) = 43 ∨ z (i + 1) = 45))) : expoB ((zl z n).drop i) = tailB ((zl z n).drop (i + 1)) := by
  rw [zl_drop z n i h]
  by_cases h1 : i + 1 < n
  · have s' : ¬ (z (i + 1) = 43 ∨ z (i + 1) = 45) := fun q => s ⟨h1, q⟩
    rw [zl_drop z n (i + 1) h1]
    simp only [expoB, if_pos e, if_neg s']
  · rw [zl_end z n (i + 1) (by omega)]
    simp only [expoB, if_pos e, tailB]
theorem tail_none (s : Nat) (he : s < n → digB (z s) = false) : tailB ((zl z n).drop s) = false := by
  by_cases g : s < n
  · rw [zl_drop z n s g]; simp [tailB, he g]
  · rw [zl_end z n s (by omega)]; rfl
theorem tail_go (s j : Nat) (hij : s < j) (hn : j ≤ n) (hd : ∀ k, s ≤ k → k < j → digB (z k) = true) (he : j < n → digB (z j) = false) : tailB ((zl z n).drop s) = (j == n) := by
  have d := hd s (Nat.le_refl _) hij
  rw [zl_drop z n s (by omega)]
  simp only [tailB, d, if_true]
  rw [dropDig_to z n (s + 1) j (by omega) hn (fun k a b => hd k (by omega) b) he]
  by_cases g : j < n
  · rw [zl_drop z n j g]; simp; omega
  · rw [zl_end z n j (by omega)]
    have : j = n := by omega
    simp [this]
end Go.Proofs.Qxb6605555aDoor
