import Derived.Test.Qxb6605555aDoorRows
import Derived.WalkKit
import Derived.Below
namespace Go.Proofs.Qxb6605555aDoor
open Go.RowKit

set_option maxHeartbeats 1000000 in
/-- trim: without the zero limbs at the end. -/
theorem trim_any (g L cap : Nat) (f : Nat → Int) (w : World) (hLc : L ≤ cap) (hcap : cap ≤ 9223372036854775807)
    (hc : ∀ j, j < L → w.cell? ⟨g, j, none⟩ = some (.int .u64 (f j))) :
    Calls Tryd.prog 21 #[.slice (some ⟨g, 0, none⟩) L cap] w fun e w' =>
      ∃ L' : Nat, e = .returned (.slice (some ⟨g, 0, none⟩) L' cap) ∧ L' ≤ L ∧ (∀ k, L' ≤ k → k < L → f k = 0) ∧ (0 < L' → ¬ f (L' - 1) = 0) ∧ w' = w := by
  go_enter Tryd.func21, Tryd.ntmps21
  go_wp2
  go_loop [0] (fun t => ∃ q : Nat, t = .slice (some ⟨g, 0, none⟩) q cap ∧ q ≤ L ∧ Hid (∀ k, q ≤ k → k < L → f k = 0)) (fun t => match t with | .slice _ q _ => q | _ => 0)
  case atStart => exact ⟨L, rfl, Nat.le_refl _, fun k h1 h2 => by omega⟩
  case round =>
    obtain ⟨q, rfl, hq, hz⟩ := hrel
    by_cases h0 : q = 0
    · subst h0
      go_wp2
      go_ret
      exact ⟨0, rfl, hq, hz.out, fun h => by omega, rfl⟩
    · obtain ⟨p, rfl⟩ : ∃ p, q = p + 1 := ⟨q - 1, by omega⟩
      have hcp := hc p (by omega)
      clear h0
      by_cases hv : f p = 0
      · have HV : Hid (f p = 0) := hv
        have hb : (f p == 0) = true := beq_iff_eq.2 hv
        clear hv
        go_wp2
        go_round
        case rel => exact ⟨p, by go_num, by omega, fun k a b => by
          by_cases e : k = p
          · subst e; exact HV.out
          · exact hz.out k (by omega) b⟩
        case measure => simp
      · have hb : (f p == 0) = false := beq_eq_false_iff_ne.2 hv
        have HV : Hid (¬ f p = 0) := hv
        clear hv
        go_wp2
        go_ret
        exact ⟨p + 1, rfl, hq, hz.out, fun _ => HV.out, rfl⟩
end Go.Proofs.Qxb6605555aDoor
