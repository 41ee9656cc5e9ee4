import Derived.Test.Qxb6605555aDoorRows
import Derived.WalkKit
import Derived.Below
namespace Go.Proofs.Qxb6605555aDoor
open Go.RowKit

/-- Limbs below 10^18, no zero limb last. -/
def WfL (f : Nat → Int) (L : Nat) : Prop := (∀ k, k < L → f k < 1000000000000000000) ∧ (0 < L → ¬ f (L - 1) = 0)

/-- How limbsWellFormed ends. -/
def WfEnd (f : Nat → Int) (L : Nat) (w : World) (e : Ending) (w' : World) : Prop := ∃ Bv : Bool, e = .returned (.bool Bv) ∧ (Bv = true ↔ WfL f L) ∧ w' = w

theorem wf_no {f : Nat → Int} {L : Nat} {w : World} (h : ¬ WfL f L) : WfEnd f L w (.returned (.bool false)) w := ⟨false, rfl, ⟨(fun q => by cases q), fun q => absurd q h⟩, rfl⟩
theorem wf_yes {f : Nat → Int} {L : Nat} {w : World} (h : WfL f L) : WfEnd f L w (.returned (.bool true)) w := ⟨true, rfl, ⟨fun _ => h, fun _ => rfl⟩, rfl⟩

set_option maxRecDepth 100000 in
set_option maxHeartbeats 2000000 in
theorem wf_any (a : Option Addr) (L c : Nat) (f : Nat → Int) (w : World) (hL : L ≤ 1048577)
    (ha : 0 < L → ∃ g o, a = some ⟨g, o, none⟩ ∧ ∀ j, j < L → w.cell? ⟨g, o + j, none⟩ = some (.int .u64 (f j))) :
    Calls Tryd.prog 10 #[.slice a L c] w (WfEnd f L w) := by
  by_cases h0 : L = 0
  · subst h0
    go_enter Tryd.func10, Tryd.ntmps10
    go_wp2
    refine wp_loop_rounds 1 ?_
    rw [rounds_succ]
    go_wp2
    go_ret
    exact wf_yes ⟨fun k hk => by omega, fun h => by omega⟩
  · obtain ⟨g, o, rfl, hc⟩ := ha (by omega)
    have hb0 : ((L : Int) == 0) = false := beq_eq_false_iff_ne.2 (by omega)
    have HC : Hid (∀ j, j < L → w.cell? ⟨g, o + j, none⟩ = some (.int .u64 (f j))) := hc
    clear ha hc
    have hLp : 0 < L := by omega
    clear h0
    go_enter Tryd.func10, Tryd.ntmps10
    go_wp2
    go_loop [3] (fun t => ∃ k : Nat, t = .int .i64 k ∧ k ≤ L ∧ Hid (∀ j, j < k → f j < 1000000000000000000)) (fun t => L - (intOf t).toNat)
    case atStart => exact ⟨0, rfl, Nat.zero_le _, fun j hj => by omega⟩
    case round =>
      obtain ⟨k, rfl, hk, HD⟩ := hrel
      by_cases hlt : k < L
      · have hck := HC.out k hlt
        by_cases hv : 1000000000000000000 ≤ f k
        · go_wp2
          go_ret
          exact wf_no (fun q => by have := q.1 k hlt; omega)
        · go_wp2
          go_round
          case rel => exact ⟨k + 1, by go_num, by omega, fun j hj => by
            by_cases e : j = k
            · subst e; omega
            · exact HD.out j (by omega)⟩
          case measure => simp [intOf]; omega
      · have HA : Hid (∀ j, j < L → f j < 1000000000000000000) := fun j hj => HD.out j (by omega)
        have hcl := HC.out (L - 1) (by omega)
        by_cases hv : f (L - 1) = 0
        · have hbv : (f (L - 1) != 0) = false := by simp [hv]
          have HV : Hid (f (L - 1) = 0) := hv
          clear hv
          go_wp2
          go_ret
          exact wf_no (fun q => q.2 hLp HV.out)
        · have hbv : (f (L - 1) != 0) = true := by simp [hv]
          have HV : Hid (¬ f (L - 1) = 0) := hv
          clear hv
          go_wp2
          go_ret
          exact wf_yes ⟨HA.out, fun _ => HV.out⟩
end Go.Proofs.Qxb6605555aDoor
