import Derived.Test.Qxb6605555aDoorDig
namespace Go.Proofs.Qxb6605555aDoor

/-! The plain law: the reader of JSON numbers and the automaton answer alike. -/

/-- The list of the first n bytes. -/
def zl (z : Nat → Int) (n : Nat) : List Int := (List.range n).map z

theorem zl_length (z : Nat → Int) (n : Nat) : (zl z n).length = n := by simp [zl]

theorem zl_drop (z : Nat → Int) (n k : Nat) (h : k < n) : (zl z n).drop k = z k :: (zl z n).drop (k + 1) := by
  rw [List.drop_eq_getElem_cons (by simpa [zl] using h)]
  simp [zl]

theorem zl_end (z : Nat → Int) (n k : Nat) (h : n ≤ k) : (zl z n).drop k = [] := by
  apply List.drop_eq_nil_of_le; simpa [zl] using h

def dropDig : List Int → List Int
  | [] => []
  | c :: r => if digB c then dropDig r else c :: r

/-- Behind 'e' or 'E' and a sign: digits, one at least, and nothing behind. -/
def tailB : List Int → Bool
  | [] => false
  | c :: r => if digB c then (dropDig r).isEmpty else false

def expoB : List Int → Bool
  | [] => true
  | c :: r => if c = 101 ∨ c = 69 then
      (match r with
        | [] => false
        | d :: q => if d = 43 ∨ d = 45 then tailB q else tailB r)
    else false

def fracB : List Int → Bool
  | [] => true
  | c :: r => if c = 46 then
      (match r with
        | [] => false
        | d :: q => if digB d then expoB (dropDig q) else false)
    else expoB (c :: r)

def intB : List Int → Bool
  | [] => false
  | c :: r => if c = 48 then fracB r else if digB c then fracB (dropDig r) else false

def numB : List Int → Bool
  | [] => false
  | c :: r => if c = 45 then intB r else intB (c :: r)

/-- Over an index: where the digits end. -/
theorem dropDig_at (z : Nat → Int) (n : Nat) : ∀ (m i j : Nat), j = i + m → j ≤ n → (∀ k, i ≤ k → k < j → digB (z k) = true) → (j < n → digB (z j) = false) → dropDig ((zl z n).drop i) = (zl z n).drop j
  | 0, i, j, hj, hn, _, he => by
    have : j = i := by omega
    subst this
    by_cases h : j < n
    · rw [zl_drop z n j h]; simp [dropDig, he h]
    · rw [zl_end z n j (by omega)]; rfl
  | m + 1, i, j, hj, hn, hd, he => by
    have hi : i < n := by omega
    rw [zl_drop z n i hi]
    simp only [dropDig, hd i (Nat.le_refl _) (by omega), if_true]
    exact dropDig_at z n m (i + 1) j (by omega) hn (fun k a b => hd k (by omega) b) he

theorem dropDig_to (z : Nat → Int) (n i j : Nat) (hij : i ≤ j) (hn : j ≤ n) (hd : ∀ k, i ≤ k → k < j → digB (z k) = true) (he : j < n → digB (z j) = false) : dropDig ((zl z n).drop i) = (zl z n).drop j :=
  dropDig_at z n (j - i) i j (by omega) hn hd he
end Go.Proofs.Qxb6605555aDoor
