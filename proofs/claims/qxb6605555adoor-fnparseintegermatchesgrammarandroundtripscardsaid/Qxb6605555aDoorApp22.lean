import Derived.Test.Qxb6605555aDoorAppT
import Derived.WalkKit
import Derived.Below
namespace Go.Proofs.Qxb6605555aDoor
open Go.RowKit

/-- How strconv.AppendUint ends at a slice of the call's own. -/
structure OwnEnd (B n : Nat) (xs : List Value) (T : List UInt8) (w : World) (e : Ending) (w' : World) : Prop where
  ex : ∃ v', e = .returned v' ∧ w'.ownsRow B 5 1 v' (n + T.length) (xs ++ Lib.byteCells T)
  bel : Below B w w'
  others : Lib.OthersKept 5 none w w'

set_option maxHeartbeats 1000000 in
theorem app22_text (tb u : Nat) (hu : u < 1000000000000000000) (w : World) (h : ∃ cur, w.heap[tb]? = some (.cells cur 42 (0, 0)) ∧ cur.size = 18)
    (htab : Lib.TabIs Tryd.prog w Tryd.powName .u64 Lib.pow10Tab) :
    Calls Tryd.prog 22 #[.slice (some ⟨tb, 0, none⟩) 0 18, .int .u64 u, .int .i64 10] w (TextEnd tb u w) := by
  have H1 := Lib.hid h
  have H2 := Lib.hid htab
  clear h htab
  go_enter Tryd.func22, Tryd.ntmps22
  go_wp2_with fail
  refine (app_text tb u hu w H1.out H2.out).mono ?_
  rintro e w' ⟨rfl, h1, h2, h3⟩
  have HE : Hid (TextEnd tb u w (.returned (.slice (some ⟨tb, 0, none⟩) (Lib.decDigits u).length 18)) w') := ⟨rfl, h1, h2, h3⟩
  clear h1 h2 h3
  go_wp2
  go_ret
  exact HE.out

set_option maxHeartbeats 1000000 in
theorem app22_own (B n u : Nat) (hu64 : u < 18446744073709551616) (sv : Value) (xs : List Value) (w : World) (hown : w.ownsRow B 5 1 sv n xs) (hBw : B ≤ w.heap.size) (hlim : n + 20 ≤ 140737488355328)
    (htab : Lib.TabIs Tryd.prog w Tryd.powName .u64 Lib.pow10Tab) :
    Calls Tryd.prog 22 #[sv, .int .u64 u, .int .i64 10] w (OwnEnd B n xs (Lib.decDigits u) w) := by
  have H1 := Lib.hid hown
  have H2 := Lib.hid htab
  clear hown htab
  go_enter Tryd.func22, Tryd.ntmps22
  go_wp2_with fail
  refine (Tryd.internal_strconv_AppendUint_10 B n u hu64 sv xs w H1.out hBw hlim H2.out).mono ?_
  rintro e w' ⟨v', rfl, h1, h2, h3⟩
  have HE : Hid (OwnEnd B n xs (Lib.decDigits u) w (.returned v') w') := ⟨⟨v', rfl, h1⟩, h2, h3⟩
  clear h1 h2 h3
  go_wp2
  go_ret
  exact HE.out
end Go.Proofs.Qxb6605555aDoor
