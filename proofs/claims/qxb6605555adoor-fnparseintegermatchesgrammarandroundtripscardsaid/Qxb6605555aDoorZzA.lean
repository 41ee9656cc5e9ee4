import Derived.Test.Qxb6605555aDoorApp
import Derived.WalkKit
import Derived.Below
namespace Go.Proofs.Qxb6605555aDoor
open Go.RowKit

/-- The text that appendText writes of L limbs. -/
def fullText (neg : Bool) (f : Nat → Nat) (L : Nat) : List UInt8 := if L = 0 then [48] else minusT neg ++ bigText f L

set_option maxRecDepth 100000 in
set_option maxHeartbeats 2000000 in
/-- ZZAppendText at a slice without room. -/
theorem zzapp (n cap L lc : Nat) (ao : Option Addr) (neg : Bool) (la : Option Addr) (f : Nat → Nat) (xs : List Value) (w : World) (hfull : Full w ao n cap xs) (hlim : n + 1 + 18 * L + 20 ≤ 140737488355328) (hL2 : L ≤ 1048577)
    (hc : 0 < L → ∃ lb lo, la = some ⟨lb, lo, none⟩ ∧ lb < w.heap.size ∧ ∀ j, j < L → w.cell? ⟨lb, lo + j, none⟩ = some (.int .u64 (f j))) (hf : ∀ j, j < L → f j < 1000000000000000000)
    (htab : Lib.TabBelow Tryd.prog w.heap.size w Tryd.powName .u64 Lib.pow10Tab) :
    Calls Tryd.prog 12 #[.bool neg, .slice la L lc, .slice ao n cap] w (GrowEnd n xs (fullText neg f L) w) := by
  have HO := Lib.hid hfull
  have HC := Lib.hid hc
  have HF := Lib.hid hf
  have HT := Lib.hid htab
  clear hfull hc hf htab
  have hcall : Calls Tryd.prog 19 #[.agg #[.bool neg, .slice la L lc], .slice ao n cap] w (GrowEnd n xs (fullText neg f L) w) := by
    by_cases h0 : L = 0
    · subst h0
      exact apptext_zero n cap ao neg la lc xs w HO.out (by omega)
    · obtain ⟨lb, lo, rfl, hlb, hcell⟩ := HC.out (by omega)
      have := apptext_pos n cap L lb lo lc ao neg f xs w HO.out hlim (by omega) hL2 hlb hcell HF.out HT.out
      rw [fullText, if_neg h0]
      exact this
  have HCall := Lib.hid hcall
  clear hcall
  go_enter Tryd.func12, Tryd.ntmps12
  go_wp2_with fail
  refine HCall.out.mono ?_
  rintro e w' ⟨⟨v', rfl, h1⟩, h2⟩
  have HE : Hid (GrowEnd n xs (fullText neg f L) w (.returned v') w') := ⟨⟨v', rfl, h1⟩, h2⟩
  clear h1 h2
  go_wp2
  go_ret
  exact HE.out
end Go.Proofs.Qxb6605555aDoor
