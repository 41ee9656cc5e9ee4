import Derived.Test.Qxb6605555aNum
import Derived.Test.Qxb6605555aModel
import Derived.Test.Qxb6605555aClone
import Derived.WalkKit
import Derived.Below
namespace Go.Proofs.Qxb6605555a
open Go.RowKit

set_option maxHeartbeats 1000000 in
/-- Too long or empty: true at once. -/
theorem law1_short (a : Option Addr) (n c : Nat) (w : World) (h63 : n ≤ 9223372036854775807) (h : n = 0 ∨ 1048576 < n) :
    Calls Try.prog 3 #[.slice a n c] w fun e w' => e = .returned (.bool true) ∧ Below w.heap.size w w' := by
  rcases h with h | h
  · subst h
    go_enter Try.func3, Try.ntmps3
    go_wp2
    go_ret
    exact ⟨rfl, Below.refl _ _⟩
  · go_enter Try.func3, Try.ntmps3
    go_wp2
    go_ret
    exact ⟨rfl, Below.refl _ _⟩

set_option maxRecDepth 100000 in
set_option maxHeartbeats 1000000 in
theorem law1_go (b off n c : Nat) (z : Nat → Int) (w : World) (hn : n ≤ 1048576) (hn0 : 0 < n)
    (hc : ∀ j, j < n → w.cell? ⟨b, off + j, none⟩ = some (.int .u8 (z j))) :
    Calls Try.prog 3 #[.slice (some ⟨b, off, none⟩) n c] w fun e w' => e = .returned (.bool true) ∧ Below w.heap.size w w' := by
  have hb : b < w.heap.size := World.block_lt_of_cell? w ⟨b, off + 0, none⟩ (hc 0 hn0)
  have HC : Hid (∀ j, j < n → w.cell? ⟨b, off + j, none⟩ = some (.int .u8 (z j))) := hc
  have hb0 : ((n : Int) == 0) = false := beq_eq_false_iff_ne.2 (by omega)
  clear hc
  go_enter Try.func3, Try.ntmps3
  go_wp2_with (first | (go_at_call 5; go_in))
  refine (clone_any b off n c z _ (by omega) (fun _ => hb) HC.out).mono ?_
  rintro e w1 ⟨rfl, hrow, hbel, hsz⟩
  have HC1 : Hid (∀ j, j < n → w1.cell? ⟨w.heap.size, 0 + j, none⟩ = some (.int .u8 (z j))) := fun j hj => by rw [Nat.zero_add]; exact hrow.cell hj
  have hlt1 : w.heap.size < w1.heap.size := by omega
  have HB : Hid (Below w.heap.size w w1) := hbel
  have HS : Hid (w1.heap.size = w.heap.size + 1) := hsz
  clear hrow hbel hsz
  go_wp2_with (first | (go_at_call 7; go_in))
  refine (number_any w.heap.size 0 n n z w1 (by omega) hn0 hlt1 HC1.out).mono ?_
  rintro e w2 ⟨rfl, rfl⟩
  have HC2 : Hid (∀ j, j < n → (w1.alloc (.cells #[.slice (some ⟨w.heap.size, 0, none⟩) n n] 22)).cell? ⟨w.heap.size, 0 + j, none⟩ = some (.int .u8 (z j))) :=
    fun j hj => (((Below.refl w1.heap.size w1).alloc (Nat.le_refl _) _).cell (p := ⟨w.heap.size, 0 + j, none⟩) hlt1).trans (HC1.out j hj)
  have HE : Hid (nfold 0 (zl z n) = numB (zl z n)) := fold0 _
  generalize numB (zl z n) = R at HE ⊢
  go_wp2_with fail
  refine (model_any w.heap.size 0 n n z _ (by omega) HC2.out).mono ?_
  rintro e w3 ⟨rfl, rfl⟩
  rw [HE.out]
  cases R
  all_goals
    go_wp2
    go_ret
    exact ⟨rfl, HB.out.alloc (by have := HS.out; omega) _⟩
end Go.Proofs.Qxb6605555a
