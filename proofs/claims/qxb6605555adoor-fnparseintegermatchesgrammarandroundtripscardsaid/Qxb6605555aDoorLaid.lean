import Derived.Test.Qxb6605555aDoorRows
import Derived.Test.Qxb6605555aDoorShelf
import Derived.ProofKit
import Derived.LaidMore
import Derived.MakeChecks
import Derived.OpenShut
import Derived.Stop.Joined
import Derived.Stop.LaidErr
import Derived.Lib.LaidTab
namespace Go.Proofs.Qxb6605555aDoor
open Go.ChangeShapes Go.WideShapes Go.ChangeAt Go.RowKit

theorem own : ownKnob Tryd.prog.godebug = none := by kernel_rfl
theorem laidOut : laidOutB Tryd.prog = true := by kernel_rfl

/-- What the rows list. -/
abbrev laid3 : List (String × DataW Unit) := Rows.fnAppendTextWritesDecimalOfLimbsRow.laid

/-- The door's own heap meets the condition. -/
theorem door_met (os : Os) (args : Array Value) : laidMetH Tryd.prog laid3 ((World.doorLaid Tryd.prog 400 os).forCall (fun _ _ => 0) ⟨#[], args, []⟩).memory :=
  laidMetH_of_parts3 (fuel := 8) (laidMet_of_run' 8 (by kernel_rfl) (by kernel_rfl)) (by kernel_rfl) (by kernel_rfl)

theorem pow_laid : (Rows.laid_internal_strconv_uint64pow10 : DataW Unit) = Lib.tabData .u64 Lib.pow10Tab := by kernel_rfl

/-- What the condition gives the walks: the table of the powers of ten. -/
theorem tab_of_laid {W : World} (h : laidMetH Tryd.prog laid3 W) : Lib.TabIs Tryd.prog W Tryd.powName .u64 Lib.pow10Tab := by
  rw [MakeChecks.laidMetH_plain _ _ _ (by kernel_rfl)] at h
  have h3 : laidMet Tryd.prog [(Tryd.powName, Rows.laid_internal_strconv_uint64pow10)] W := h.tail.tail
  rw [pow_laid] at h3
  exact Lib.tabIs_of_head (g := 0) (t := 51) (e := 40) (n := 20) (by kernel_rfl) (by kernel_rfl) Tryd.underlying51 Tryd.underlying40 (by kernel_rfl) (by kernel_rfl) h3

/-- What the walk is told of a slice of integers that came in. -/
def IsRow (k : IntKind) (w : World) (a : Option Addr) (len cap : Nat) (zs : List Int) : Prop :=
  (a = none ∧ len = 0 ∧ cap = 0 ∧ zs = []) ∨
  ∃ x, a = some x ∧ len ≤ cap ∧ cap ≤ maxLen ∧ zs.length = cap ∧ (∀ i, i < zs.length → w.cell? (x.add i) = some (.int k (zs.getD i 0))) ∧ ∀ n ∈ zs, (Lit.int k n).wf = true

theorem isRow_63 {k : IntKind} {w : World} {a : Option Addr} {len cap : Nat} {zs : List Int} (h : IsRow k w a len cap zs) : len ≤ 9223372036854775807 := by
  rcases h with ⟨_, rfl, _, _⟩ | ⟨x, _, hl, hm, _⟩
  · omega
  · unfold maxLen at hm; omega
end Go.Proofs.Qxb6605555aDoor
