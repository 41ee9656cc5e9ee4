import Derived.Test.Qxb6605555aStep
import Derived.Test.Qxb6605555aDig
namespace Go.Proofs.Qxb6605555a

/-! The plain law: the reader of JSON numbers and the automaton answer alike. -/

/-- The list of the first n bytes. -/
def zl (z : Nat → Int) (n : Nat) : List Int := (List.range n).map z

theorem zl_length (z : Nat → Int) (n : Nat) : (zl z n).length = n := by simp [zl]

theorem zl_drop (z : Nat → Int) (n k : Nat) (h : k < n) : (zl z n).drop k = z k :: (zl z n).drop (k + 1) := by
  rw [List.drop_eq_getElem_cons (by simpa [zl] using h)]
  simp [zl]

theorem zl_end (z : Nat → Int) (n k : Nat) (h : n ≤ k) : (zl z n).drop k = [] := by
  apply List.drop_eq_nil_of_le; simpa [zl] using h

def acc (s : Int) : Bool := (s == 2 || s == 3 || s == 5 || s == 8)

def nfold : Int → List Int → Bool
  | s, [] => acc s
  | s, c :: r => if nstep s c < 0 then false else nfold (nstep s c) r

def dropDig : List Int → List Int
  | [] => []
  | c :: r => if digB c then dropDig r else c :: r

/-- Behind 'e' or 'E' and a sign: digits, one at least, and nothing behind. -/
def tailB : List Int → Bool
  | [] => false
  | c :: r => if digB c then (dropDig r).isEmpty else false

def expoB : List Int → Bool
  | [] => true
  | c :: r => if c = 101 ∨ c = 69 then
      (match r with
        | [] => false
        | d :: q => if d = 43 ∨ d = 45 then tailB q else tailB r)
    else false

def fracB : List Int → Bool
  | [] => true
  | c :: r => if c = 46 then
      (match r with
        | [] => false
        | d :: q => if digB d then expoB (dropDig q) else false)
    else expoB (c :: r)

def intB : List Int → Bool
  | [] => false
  | c :: r => if c = 48 then fracB r else if digB c then fracB (dropDig r) else false

def numB : List Int → Bool
  | [] => false
  | c :: r => if c = 45 then intB r else intB (c :: r)

theorem fold8 (l : List Int) : nfold 8 l = (dropDig l).isEmpty := by
  induction l with
  | nil => rfl
  | cons c r ih =>
    by_cases h : 48 ≤ c ∧ c ≤ 57
    · have e : nstep 8 c = 8 := by simp [nstep, h]
      have d : digB c = true := by simp [digB, h]
      simp [nfold, e, ih, dropDig, d]
    · have e : nstep 8 c = -1 := by simp [nstep, h]
      have d : digB c = false := by simp [digB]; omega
      simp [nfold, e, dropDig, d]

theorem fold7 (l : List Int) : nfold 7 l = tailB l := by
  cases l with
  | nil => rfl
  | cons c r =>
    by_cases h : 48 ≤ c ∧ c ≤ 57
    · have e : nstep 7 c = 8 := by simp [nstep, h]
      have d : digB c = true := by simp [digB, h]
      simp [nfold, e, tailB, d, fold8]
    · have e : nstep 7 c = -1 := by simp [nstep, h]
      have d : digB c = false := by simp [digB]; omega
      simp [nfold, e, tailB, d]

theorem fold6 (l : List Int) : nfold 6 l = (match l with | [] => false | d :: q => if d = 43 ∨ d = 45 then tailB q else tailB l) := by
  cases l with
  | nil => rfl
  | cons c r =>
    by_cases g : c = 43 ∨ c = 45
    · have e : nstep 6 c = 7 := by simp [nstep, g]
      simp [nfold, e, fold7, g]
    · by_cases h : 48 ≤ c ∧ c ≤ 57
      · have e : nstep 6 c = 8 := by simp [nstep, h, g]
        have d : digB c = true := by simp [digB, h]
        simp [nfold, e, tailB, d, fold8, g]
      · have e : nstep 6 c = -1 := by simp [nstep, h, g]
        have d : digB c = false := by simp [digB]; omega
        simp [nfold, e, tailB, d, g]

theorem fold5 (l : List Int) : nfold 5 l = expoB (dropDig l) := by
  induction l with
  | nil => rfl
  | cons c r ih =>
    by_cases h : 48 ≤ c ∧ c ≤ 57
    · have e : nstep 5 c = 5 := by simp [nstep, h]
      have d : digB c = true := by simp [digB, h]
      simp [nfold, e, ih, dropDig, d]
    · have d : digB c = false := by simp [digB]; omega
      by_cases g : c = 101 ∨ c = 69
      · have e : nstep 5 c = 6 := by simp [nstep, h, g]
        simp only [nfold, e, dropDig, d, expoB, fold6]
        simp [g]
      · have e : nstep 5 c = -1 := by simp [nstep, h, g]
        simp [nfold, e, dropDig, d, expoB, g]

theorem fold4 (l : List Int) : nfold 4 l = (match l with | [] => false | d :: q => if digB d then expoB (dropDig q) else false) := by
  cases l with
  | nil => rfl
  | cons c r =>
    by_cases h : 48 ≤ c ∧ c ≤ 57
    · have e : nstep 4 c = 5 := by simp [nstep, h]
      have d : digB c = true := by simp [digB, h]
      simp [nfold, e, d, fold5]
    · have e : nstep 4 c = -1 := by simp [nstep, h]
      have d : digB c = false := by simp [digB]; omega
      simp [nfold, e, d]

theorem fold2 (l : List Int) : nfold 2 l = fracB l := by
  cases l with
  | nil => rfl
  | cons c r =>
    by_cases p : c = 46
    · have e : nstep 2 c = 4 := by simp [nstep, p]
      simp only [nfold, e, fold4, fracB, if_pos p]
      simp
    · by_cases g : c = 101 ∨ c = 69
      · have e : nstep 2 c = 6 := by simp [nstep, p, g]
        simp only [nfold, e, fold6, fracB, if_neg p, expoB, if_pos g]
        simp
      · have e : nstep 2 c = -1 := by simp [nstep, p, g]
        simp [nfold, e, fracB, p, expoB, g]

theorem fold3 (l : List Int) : nfold 3 l = fracB (dropDig l) := by
  induction l with
  | nil => rfl
  | cons c r ih =>
    by_cases h : 48 ≤ c ∧ c ≤ 57
    · have e : nstep 3 c = 3 := by simp [nstep, h]
      have d : digB c = true := by simp [digB, h]
      simp [nfold, e, ih, dropDig, d]
    · have d : digB c = false := by simp [digB]; omega
      have e : nstep 3 c = nstep 2 c := by simp [nstep, h]
      have q : nfold 3 (c :: r) = nfold 2 (c :: r) := by simp only [nfold, e]
      rw [q, fold2]
      simp [dropDig, d]

theorem fold1 (l : List Int) : nfold 1 l = intB l := by
  cases l with
  | nil => rfl
  | cons c r =>
    by_cases z : c = 48
    · subst z
      have e : nstep 1 48 = 2 := by decide
      simp [nfold, e, fold2, intB]
    · by_cases h : 48 ≤ c ∧ c ≤ 57
      · have e : nstep 1 c = 3 := by simp [nstep, h, z]
        have d : digB c = true := by simp [digB, h]
        simp [nfold, e, fold3, intB, z, d]
      · have e : nstep 1 c = -1 := by simp [nstep, h, z]
        have d : digB c = false := by simp [digB]; omega
        simp [nfold, e, intB, z, d]

/-- THE PLAIN LAW. -/
theorem fold0 (l : List Int) : nfold 0 l = numB l := by
  cases l with
  | nil => rfl
  | cons c r =>
    by_cases m : c = 45
    · subst m
      have e : nstep 0 45 = 1 := by decide
      simp [nfold, e, fold1, numB]
    · have e : nstep 0 c = nstep 1 c := by simp [nstep, m]
      have q : nfold 0 (c :: r) = nfold 1 (c :: r) := by simp only [nfold, e]
      rw [q, fold1]
      simp [numB, m]

/-- Over an index: where the digits end. -/
theorem dropDig_at (z : Nat → Int) (n : Nat) : ∀ (m i j : Nat), j = i + m → j ≤ n → (∀ k, i ≤ k → k < j → digB (z k) = true) → (j < n → digB (z j) = false) → dropDig ((zl z n).drop i) = (zl z n).drop j
  | 0, i, j, hj, hn, _, he => by
    have : j = i := by omega
    subst this
    by_cases h : j < n
    · rw [zl_drop z n j h]; simp [dropDig, he h]
    · rw [zl_end z n j (by omega)]; rfl
  | m + 1, i, j, hj, hn, hd, he => by
    have hi : i < n := by omega
    rw [zl_drop z n i hi]
    simp only [dropDig, hd i (Nat.le_refl _) (by omega), if_true]
    exact dropDig_at z n m (i + 1) j (by omega) hn (fun k a b => hd k (by omega) b) he

theorem dropDig_to (z : Nat → Int) (n i j : Nat) (hij : i ≤ j) (hn : j ≤ n) (hd : ∀ k, i ≤ k → k < j → digB (z k) = true) (he : j < n → digB (z j) = false) : dropDig ((zl z n).drop i) = (zl z n).drop j :=
  dropDig_at z n (j - i) i j (by omega) hn hd he
end Go.Proofs.Qxb6605555a
