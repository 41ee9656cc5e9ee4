import Derived.Test.Qxb6605555aRows
import Derived.WalkKit
import Derived.Below
namespace Go.Proofs.Qxb6605555a
open Go.RowKit

/-- One step of the automaton, as the Go text has it. -/
def nstep (s c : Int) : Int :=
  if s = 0 then (if c = 45 then 1 else if c = 48 then 2 else if 48 ≤ c ∧ c ≤ 57 then 3 else -1)
  else if s = 1 then (if c = 48 then 2 else if 48 ≤ c ∧ c ≤ 57 then 3 else -1)
  else if s = 2 then (if c = 46 then 4 else if c = 101 ∨ c = 69 then 6 else -1)
  else if s = 3 then (if 48 ≤ c ∧ c ≤ 57 then 3 else if c = 46 then 4 else if c = 101 ∨ c = 69 then 6 else -1)
  else if s = 4 then (if 48 ≤ c ∧ c ≤ 57 then 5 else -1)
  else if s = 5 then (if 48 ≤ c ∧ c ≤ 57 then 5 else if c = 101 ∨ c = 69 then 6 else -1)
  else if s = 6 then (if c = 43 ∨ c = 45 then 7 else if 48 ≤ c ∧ c ≤ 57 then 8 else -1)
  else if s = 7 ∨ s = 8 then (if 48 ≤ c ∧ c ≤ 57 then 8 else -1)
  else -1

theorem ret_int {k : IntKind} {a b : Int} (h : a = b) : Ending.returned (.int k a) = .returned (.int k b) := by rw [h]

set_option maxHeartbeats 1000000 in
theorem step_dig (s c : Int) (w : World) (hs0 : 0 ≤ s) (hs8 : s ≤ 8) (h1 : 48 ≤ c) (h2 : c ≤ 57) :
    Calls Try.prog 14 #[.int .i64 s, .int .u8 c] w fun e w' => e = .returned (.int .i64 (nstep s c)) ∧ w' = w := by
  have k1 : ¬ c = 45 := by omega
  have k2 : ¬ c = 46 := by omega
  have k3 : ¬ c = 101 := by omega
  have k4 : ¬ c = 69 := by omega
  have k5 : ¬ c = 43 := by omega
  rcases (show s = 0 ∨ s = 1 ∨ s = 2 ∨ s = 3 ∨ s = 4 ∨ s = 5 ∨ s = 6 ∨ s = 7 ∨ s = 8 by omega) with e | e | e | e | e | e | e | e | e
  all_goals
    subst e
    go_enter Try.func14, Try.ntmps14
    go_wp2
    all_goals
      go_ret
      refine ⟨ret_int ?_, rfl⟩
      unfold nstep
      simp_all

set_option maxHeartbeats 4000000 in
theorem step_lit (s c : Int) (w : World) (hs0 : 0 ≤ s) (hs8 : s ≤ 8) (h : c = 45 ∨ c = 46 ∨ c = 101 ∨ c = 69 ∨ c = 43) :
    Calls Try.prog 14 #[.int .i64 s, .int .u8 c] w fun e w' => e = .returned (.int .i64 (nstep s c)) ∧ w' = w := by
  rcases h with h | h | h | h | h
  all_goals
    subst h
    rcases (show s = 0 ∨ s = 1 ∨ s = 2 ∨ s = 3 ∨ s = 4 ∨ s = 5 ∨ s = 6 ∨ s = 7 ∨ s = 8 by omega) with e | e | e | e | e | e | e | e | e
    all_goals
      subst e
      go_enter Try.func14, Try.ntmps14
      go_wp2
      go_ret
      exact ⟨ret_int (by decide), rfl⟩

set_option maxHeartbeats 4000000 in
theorem step_other (s c : Int) (w : World) (hs0 : 0 ≤ s) (hs8 : s ≤ 8) (hd : c < 48 ∨ 57 < c) (k1 : ¬ c = 45) (k2 : ¬ c = 46) (k3 : ¬ c = 101) (k4 : ¬ c = 69) (k5 : ¬ c = 43) :
    Calls Try.prog 14 #[.int .i64 s, .int .u8 c] w fun e w' => e = .returned (.int .i64 (nstep s c)) ∧ w' = w := by
  have k6 : ¬ c = 48 := by omega
  have b1 : (c == 45) = false := beq_eq_false_iff_ne.2 k1
  have b2 : (c == 46) = false := beq_eq_false_iff_ne.2 k2
  have b3 : (c == 101) = false := beq_eq_false_iff_ne.2 k3
  have b4 : (c == 69) = false := beq_eq_false_iff_ne.2 k4
  have b5 : (c == 43) = false := beq_eq_false_iff_ne.2 k5
  have b6 : (c == 48) = false := beq_eq_false_iff_ne.2 k6
  have H1 : Hid (¬ c = 45 ∧ ¬ c = 46 ∧ ¬ c = 101 ∧ ¬ c = 69 ∧ ¬ c = 43 ∧ ¬ c = 48) := ⟨k1, k2, k3, k4, k5, k6⟩
  clear k1 k2 k3 k4 k5 k6
  rcases hd with hd | hd
  all_goals
    rcases (show s = 0 ∨ s = 1 ∨ s = 2 ∨ s = 3 ∨ s = 4 ∨ s = 5 ∨ s = 6 ∨ s = 7 ∨ s = 8 by omega) with e | e | e | e | e | e | e | e | e
    all_goals
      subst e
      go_enter Try.func14, Try.ntmps14
      go_wp2
      go_ret
      refine ⟨ret_int ?_, rfl⟩
      unfold nstep
      have kd : ¬ (48 ≤ c ∧ c ≤ 57) := by omega
      obtain ⟨k1, k2, k3, k4, k5, k6⟩ := H1.out
      simp [k1, k2, k3, k4, k5, k6, kd]

theorem step_any (s c : Int) (w : World) (hs0 : 0 ≤ s) (hs8 : s ≤ 8) :
    Calls Try.prog 14 #[.int .i64 s, .int .u8 c] w fun e w' => e = .returned (.int .i64 (nstep s c)) ∧ w' = w := by
  by_cases hd : 48 ≤ c ∧ c ≤ 57
  · exact step_dig s c w hs0 hs8 hd.1 hd.2
  · by_cases hl : c = 45 ∨ c = 46 ∨ c = 101 ∨ c = 69 ∨ c = 43
    · exact step_lit s c w hs0 hs8 hl
    · exact step_other s c w hs0 hs8 (by omega) (by omega) (by omega) (by omega) (by omega) (by omega)

theorem nstep_lo (s c : Int) : -1 ≤ nstep s c := by unfold nstep; split <;> repeat (first | omega | split)
theorem nstep_hi (s c : Int) : nstep s c ≤ 8 := by unfold nstep; split <;> repeat (first | omega | split)
end Go.Proofs.Qxb6605555a
