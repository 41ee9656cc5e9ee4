import Derived.Test.Qxb6605555aDoorRows
import Derived.WalkKit
import Derived.Below
import Derived.Deep.QuietTactic
import Derived.BigQuiet
namespace Go.Proofs.Qxb6605555aDoor
open Go.RowKit

/-- How bytesEqual ends at two rows that are alike. -/
def BEqEnd (w : World) (e : Ending) (w' : World) : Prop := e = .returned (.bool true) ∧ ∃ q, w' = w.drewN q

set_option maxRecDepth 100000 in
set_option maxHeartbeats 2000000 in
theorem beq_yes (a b : Option Addr) (L ca cb : Nat) (f : Nat → Int) (w : World) (hL : L ≤ 4194304)
    (ha : 0 < L → ∃ g o, a = some ⟨g, o, none⟩ ∧ ∀ j, j < L → w.cell? ⟨g, o + j, none⟩ = some (.int .u8 (f j)))
    (hb : 0 < L → ∃ g o, b = some ⟨g, o, none⟩ ∧ ∀ j, j < L → w.cell? ⟨g, o + j, none⟩ = some (.int .u8 (f j))) :
    Calls Tryd.prog 11 #[.slice a L ca, .slice b L cb] w (BEqEnd w) := by
  have HA : Hid (0 < L → ∃ g o, a = some ⟨g, o, none⟩ ∧ ∀ j, j < L → w.cell? ⟨g, o + j, none⟩ = some (.int .u8 (f j))) := ha
  have HB : Hid (0 < L → ∃ g o, b = some ⟨g, o, none⟩ ∧ ∀ j, j < L → w.cell? ⟨g, o + j, none⟩ = some (.int .u8 (f j))) := hb
  clear ha hb
  go_enter Tryd.func11, Tryd.ntmps11
  go_wp2
  go_loopw [5] (fun t wr => ∃ k : Nat, t = .int .i64 k ∧ k ≤ L ∧ ∃ q, wr = w.drewN q) (fun t _ => L - (intOf t).toNat)
  case atStart => exact ⟨0, rfl, Nat.zero_le _, 0, rfl⟩
  case round =>
    obtain ⟨k, rfl, hk, q, rfl⟩ := hrel
    by_cases hlt : k < L
    · obtain ⟨g, o, rfl, h1⟩ := HA.out (by omega)
      obtain ⟨g', o', rfl, h2⟩ := HB.out (by omega)
      have c1 := h1 k hlt
      have c2 := h2 k hlt
      clear h1 h2 HA HB
      have hlt' : (k : Int) < (L : Int) := by omega
      go_wp2
      go_quiet (fail)
      go_wp2
      go_roundw
      case rel => exact ⟨k + 1, by go_num, by omega, _, rfl⟩
      case measure => simp [intOf]; omega
    · go_wp2
      go_ret
      exact ⟨rfl, q, rfl⟩
end Go.Proofs.Qxb6605555aDoor
