import Derived.Test.Qxb6605555aDoorPar
import Derived.WalkKit
import Derived.Below
import Derived.Deep.QuietTactic
import Derived.BigQuiet
namespace Go.Proofs.Qxb6605555aDoor
open Go.RowKit

theorem below_drawn {B : Nat} {a w : World} (h : Below B a w) (n : Nat) : Below B a (w.drewN n) := h.trans ⟨rfl, rfl, rfl, Nat.le_refl _, fun _ _ => rfl⟩

/-- How ZZParseInteger ends at a JSON integer. -/
def ZzEnd (z : Nat → Int) (s m : Nat) (w : World) (e : Ending) (w' : World) : Prop :=
  ∃ (g L cap : Nat), e = .returned (.tuple #[.bool (decide (s = 1) && decide (0 < L)), .slice (some ⟨g, 0, none⟩) L cap, .bool true]) ∧
    L = (if z s = 48 then 0 else limbN m) ∧ L ≤ cap ∧ w.heap.size ≤ g ∧ g < w'.heap.size ∧ (∀ k, k < L → w'.cell? ⟨g, k, none⟩ = some (.int .u64 (limbAt z s m k))) ∧ Below w.heap.size w w'

set_option maxRecDepth 100000 in
set_option maxHeartbeats 4000000 in
theorem zz_yes (b off n c s m : Nat) (z : Nat → Int) (w : World) (hn : n ≤ 1048577) (hnc : n ≤ c) (hc63 : c ≤ 9223372036854775807) (hb : b < w.heap.size)
    (hc : ∀ j, j < n → w.cell? ⟨b, off + j, none⟩ = some (.int .u8 (z j))) (hI : IsInt z n s m) :
    Calls Tryd.prog 8 #[.slice (some ⟨b, off, none⟩) n c] w (ZzEnd z s m w) := by
  have HC : Hid (∀ j, j < n → w.cell? ⟨b, off + j, none⟩ = some (.int .u8 (z j))) := hc
  have HI : Hid (IsInt z n s m) := hI
  clear hc hI
  go_enter Tryd.func8, Tryd.ntmps8
  go_wp2_with fail
  refine (parse_yes b off n c s m z w hn hnc hc63 hb HC.out HI.out).mono ?_
  rintro e w1 ⟨g, L, cap, rfl, hL, hLc, hg1, hg2, hcell, hbel⟩
  have HL : Hid (L = (if z s = 48 then 0 else limbN m)) := hL
  have HG : Hid (∀ k, k < L → w1.cell? ⟨g, k, none⟩ = some (.int .u64 (limbAt z s m k))) := hcell
  have HB : Hid (Below w.heap.size w w1) := hbel
  clear hL hcell hbel
  obtain ⟨B, hB⟩ : ∃ B, (decide (s = 1) && decide (0 < L)) = B := ⟨_, rfl⟩
  rw [hB]
  have HQ : Hid ((decide (s = 1) && decide (0 < L)) = B) := hB
  clear hB
  go_wp2_with fail
  go_quiet (fail)
  go_wp2
  go_ret3
  have hb1 : Below w1.heap.size w1 ((w1.alloc (.cells #[.bool B, .slice (some ⟨g, 0, none⟩) L cap] 37)).drewN nq) := below_drawn ((Below.refl _ _).alloc (Nat.le_refl _) _) nq
  refine ⟨g, L, cap, by rw [HQ.out]; rfl, HL.out, hLc, hg1, ?_, fun k hk => ?_, ?_⟩
  · have := hb1.size; omega
  · exact (hb1.cell (p := ⟨g, k, none⟩) hg2).trans (HG.out k hk)
  · exact HB.out.trans (hb1.mono HB.out.size)
end Go.Proofs.Qxb6605555aDoor
