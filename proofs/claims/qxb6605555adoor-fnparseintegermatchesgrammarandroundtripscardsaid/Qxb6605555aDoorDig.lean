import Derived.Test.Qxb6605555aDoorRows
import Derived.WalkKit
import Derived.Below
namespace Go.Proofs.Qxb6605555aDoor
open Go.RowKit

/-- A digit's byte. -/
def digB (c : Int) : Bool := decide (48 ≤ c) && decide (c ≤ 57)

set_option maxHeartbeats 400000 in
/-- The closure of 'number': the index past the digits from i. -/
theorem digits_any (B b off n c i : Nat) (z : Nat → Int) (w : World) (hn : n ≤ 1048577) (hi : i ≤ n)
    (hB : w.cell? ⟨B, 0, none⟩ = some (.slice (some ⟨b, off, none⟩) n c))
    (hc : ∀ j, j < n → w.cell? ⟨b, off + j, none⟩ = some (.int .u8 (z j))) :
    Calls Tryd.prog 23 #[.int .i64 i, .pointer (some ⟨B, 0, none⟩)] w fun e w' =>
      ∃ j : Nat, e = .returned (.int .i64 j) ∧ i ≤ j ∧ j ≤ n ∧ (∀ k, i ≤ k → k < j → digB (z k) = true) ∧ (j < n → digB (z j) = false) ∧ w' = w := by
  go_enter Tryd.func23, Tryd.ntmps23
  go_wp2
  go_loop [0] (fun t => ∃ j : Nat, t = .int .i64 j ∧ i ≤ j ∧ j ≤ n ∧ (∀ k, i ≤ k → k < j → digB (z k) = true)) (fun t => n - (intOf t).toNat)
  case atStart => exact ⟨i, rfl, Nat.le_refl _, hi, fun k h1 h2 => by omega⟩
  case round =>
    obtain ⟨j, rfl, hij, hjn, hd⟩ := hrel
    by_cases hlt : j < n
    · have hcj := hc j hlt
      by_cases h1 : 48 ≤ z j
      · by_cases h2 : z j ≤ 57
        · go_wp2
          go_round
          case rel => exact ⟨j + 1, by go_num, by omega, by omega, fun k a b => by
            by_cases e : k = j
            · subst e; simp [digB, h1, h2]
            · exact hd k a (by omega)⟩
          case measure => simp [intOf]; omega
        · go_wp2
          go_ret
          exact ⟨j, rfl, hij, hjn, hd, fun _ => by simp [digB]; omega, rfl⟩
      · go_wp2
        go_ret
        exact ⟨j, rfl, hij, hjn, hd, fun _ => by simp [digB]; omega, rfl⟩
    · go_wp2
      go_ret
      exact ⟨j, rfl, hij, hjn, hd, fun h => absurd h hlt, rfl⟩
end Go.Proofs.Qxb6605555aDoor
