import Derived.Test.Qxb6605555aDoorLaid
import Derived.Test.Qxb6605555aDoorCl
namespace Go.Proofs.Qxb6605555aDoor
open Go.ChangeShapes Go.WideShapes Go.ChangeAt Go.RowKit

theorem isRow_sl {k : IntKind} {w : World} {a : Option Addr} {len cap : Nat} {zs : List Int} (h : IsRow k w a len cap zs) : Sl w k a len cap (fun i => zs.getD i 0) := by
  rcases h with ⟨rfl, rfl, rfl, _⟩ | ⟨x, rfl, hl, hm, hz, hcell, _⟩
  · exact ⟨fun _ => ⟨rfl, rfl⟩, fun q => by omega⟩
  · refine ⟨(fun q => by cases q), fun hn => ?_⟩
    have hsp : x.spot = none := by simpa [Addr.add] using World.cell?_spot (hcell 0 (by omega))
    obtain ⟨b, off, spot⟩ := x
    simp only at hsp
    subst hsp
    exact ⟨b, off, rfl, fun j hj => by rw [← add_plain]; exact hcell j (by omega)⟩

theorem isRow_nonneg {w : World} {a : Option Addr} {len cap : Nat} {zs : List Int} (h : IsRow .u64 w a len cap zs) : ∀ j, j < len → 0 ≤ (fun i => zs.getD i 0) j := by
  intro j hj
  rcases h with ⟨_, rfl, _, _⟩ | ⟨x, _, hl, hm, hz, _, hw⟩
  · omega
  · have hjl : j < zs.length := by omega
    have hmem : zs.getD j 0 ∈ zs := by
      have : zs.getD j 0 = zs[j] := by simp [List.getD, hjl]
      rw [this]; exact List.getElem_mem hjl
    have hb := hw _ hmem
    have hmin : IntKind.u64.min = 0 := rfl
    simp only [Lit.wf, Bool.and_eq_true, decide_eq_true_eq, hmin] at hb
    exact hb.1
end Go.Proofs.Qxb6605555aDoor
