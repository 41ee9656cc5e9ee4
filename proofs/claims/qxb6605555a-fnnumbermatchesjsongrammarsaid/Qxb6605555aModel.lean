import Derived.Test.Qxb6605555aPlain
import Derived.WalkKit
import Derived.Below
namespace Go.Proofs.Qxb6605555a
open Go.RowKit

theorem ret_bool {a b : Bool} (h : a = b) : Ending.returned (.bool a) = .returned (.bool b) := by rw [h]

theorem nfold_go (z : Nat → Int) (n k : Nat) (s : Int) (h : k < n) (hs : 0 ≤ nstep s (z k)) : nfold s ((zl z n).drop k) = nfold (nstep s (z k)) ((zl z n).drop (k + 1)) := by
  rw [zl_drop z n k h]; simp only [nfold]; rw [if_neg (by omega)]
theorem nfold_dead (z : Nat → Int) (n k : Nat) (s : Int) (h : k < n) (hs : nstep s (z k) < 0) : nfold s ((zl z n).drop k) = false := by
  rw [zl_drop z n k h]; simp only [nfold]; rw [if_pos hs]
theorem nfold_end (z : Nat → Int) (n k : Nat) (s : Int) (h : n ≤ k) : nfold s ((zl z n).drop k) = acc s := by
  rw [zl_end z n k h]; rfl

set_option maxHeartbeats 1000000 in
theorem model_any (b off n c : Nat) (z : Nat → Int) (w : World) (hn : n ≤ 1048577)
    (hc : ∀ j, j < n → w.cell? ⟨b, off + j, none⟩ = some (.int .u8 (z j))) :
    Calls Try.prog 8 #[.slice (some ⟨b, off, none⟩) n c] w fun e w' => e = .returned (.bool (nfold 0 (zl z n))) ∧ w' = w := by
  have H0 : Hid (nfold 0 (zl z n) = nfold 0 ((zl z n).drop 0)) := by show _ = _; rw [List.drop_zero]
  generalize nfold 0 (zl z n) = R at H0 ⊢
  go_enter Try.func8, Try.ntmps8
  go_wp2
  go_loop [3, 4] (fun s t => ∃ (v : Int) (k : Nat), s = .int .i64 v ∧ t = .int .i64 k ∧ k ≤ n ∧ 0 ≤ v ∧ v ≤ 8 ∧ Hid (R = nfold v ((zl z n).drop k))) (fun _ t => n - (intOf t).toNat)
  case atStart => exact ⟨0, 0, rfl, rfl, Nat.zero_le _, by omega, by omega, H0⟩
  case round =>
    obtain ⟨v, k, rfl, rfl, hk, hv0, hv8, HR⟩ := hrel
    clear H0
    by_cases hlt : k < n
    · have hck := hc k hlt
      have hlo := nstep_lo v (z k)
      have hhi := nstep_hi v (z k)
      by_cases hs : nstep v (z k) < 0
      · have HF : Hid (R = false) := by show _ = _; rw [HR.out]; exact nfold_dead z n k v hlt hs
        clear HR
        go_wp2_with (go_at_call 14; refine (step_any _ _ _ hv0 hv8).mono ?_; rintro e w' ⟨rfl, rfl⟩)
        go_ret
        exact ⟨ret_bool HF.out.symm, rfl⟩
      · have HF : Hid (R = nfold (nstep v (z k)) ((zl z n).drop (k + 1))) := by show _ = _; rw [HR.out]; exact nfold_go z n k v hlt (by omega)
        clear HR
        go_wp2_with (go_at_call 14; refine (step_any _ _ _ hv0 hv8).mono ?_; rintro e w' ⟨rfl, rfl⟩)
        go_round
        case rel => exact ⟨_, k + 1, rfl, by go_num, by omega, by omega, hhi, HF⟩
        case measure => simp [intOf]; omega
    · have HF : Hid (R = acc v) := by show _ = _; rw [HR.out]; exact nfold_end z n k v (by omega)
      clear HR
      rcases (show v = 0 ∨ v = 1 ∨ v = 2 ∨ v = 3 ∨ v = 4 ∨ v = 5 ∨ v = 6 ∨ v = 7 ∨ v = 8 by omega) with e | e | e | e | e | e | e | e | e
      all_goals
        subst e
        go_wp2
        go_ret
        exact ⟨ret_bool (HF.out.trans (by decide)).symm, rfl⟩
end Go.Proofs.Qxb6605555a
