import Derived.Test.Qxb6605555aDoorClone
import Derived.Test.Qxb6605555aDoorCloneL
import Derived.Test.Qxb6605555aDoorNil
import Derived.WalkKit
import Derived.Below
import Derived.Lib.SliceRun
import Derived.Deep.OwnRows
namespace Go.Proofs.Qxb6605555aDoor
open Go.RowKit

/-- A slice of integers that came in. -/
structure Sl (w : World) (k : IntKind) (a : Option Addr) (n c : Nat) (z : Nat → Int) : Prop where
  isnil : a = none → n = 0 ∧ c = 0
  cell : 0 < n → ∃ g o, a = some ⟨g, o, none⟩ ∧ ∀ j, j < n → w.cell? ⟨g, o + j, none⟩ = some (.int k (z j))

theorem Sl.below {w w' : World} {k : IntKind} {a : Option Addr} {n c : Nat} {z : Nat → Int} (h : Sl w k a n c z) (hb : Below w.heap.size w w') : Sl w' k a n c z :=
  ⟨h.isnil, fun hn => by
    obtain ⟨g, o, e, hc⟩ := h.cell hn
    exact ⟨g, o, e, fun j hj => (hb.cell (World.block_lt_of_cell? w _ (hc j hj))).trans (hc j hj)⟩⟩

/-- How a clone ends: no room; its cells. -/
structure ClEnd (k : IntKind) (n : Nat) (z : Nat → Int) (w : World) (e : Ending) (w' : World) : Prop where
  ex : ∃ (a : Option Addr) (c : Nat), e = .returned (.slice a n c) ∧ c ≤ n ∧ (a = none → n = 0 ∧ c = 0) ∧ (0 < n → ∃ g, a = some ⟨g, 0, none⟩ ∧ w.heap.size ≤ g ∧ g < w'.heap.size ∧ ∀ j, j < n → w'.cell? ⟨g, 0 + j, none⟩ = some (.int k (z j)))
  bel : Below w.heap.size w w'

set_option maxHeartbeats 1000000 in
theorem clone_empty (x : Addr) (c : Nat) (w : World) :
    Calls Tryd.prog 7 #[.slice (some x) 0 c] w fun e w' => e = .returned (.slice (some ⟨w.heap.size, 0, none⟩) 0 0) ∧ Below w.heap.size w w' := by
  have q22 : ∀ (w : World) (a : Option Addr) (n c n' c' : Nat), (binOp .eql 22 (.slice a n c) (.slice none n' c')).run Tryd.prog w = .ok (.bool a.isNone) w := fun w a n c n' c' => Lib.run_eql_slice_nil w _ _ a n c n' c' Tryd.underlying22
  have hmk := run_make_row' (P := Tryd.prog) 22 5 (.int .u8 0) 1 Tryd.underlying22 Tryd.info5 rfl .i64 .i64 0 (by omega) (by omega)
  rw [show ((0 : Nat) : Int) = 0 by omega] at hmk
  go_enter Tryd.func7, Tryd.ntmps7
  go_wp2
  refine wp_loop_rounds 1 ?_
  rw [rounds_succ]
  go_wp2
  go_ret
  exact ⟨rfl, (Below.refl _ _).alloc (Nat.le_refl _) _⟩

theorem clone_gen (a : Option Addr) (n c : Nat) (z : Nat → Int) (w : World) (hn : n ≤ 1048577) (h : Sl w .u8 a n c z) : Calls Tryd.prog 7 #[.slice a n c] w (ClEnd .u8 n z w) := by
  cases a with
  | none =>
    obtain ⟨rfl, rfl⟩ := h.isnil rfl
    refine (clone_nil w).mono ?_
    rintro e w' ⟨rfl, rfl⟩
    exact ⟨⟨none, 0, rfl, Nat.le_refl _, fun _ => ⟨rfl, rfl⟩, fun q => by omega⟩, Below.refl _ _⟩
  | some x =>
    by_cases h0 : n = 0
    · subst h0
      refine (clone_empty x c w).mono ?_
      rintro e w' ⟨rfl, hb⟩
      exact ⟨⟨_, 0, rfl, Nat.le_refl _, (fun q => by cases q), fun q => by omega⟩, hb⟩
    · obtain ⟨g, o, e, hc⟩ := h.cell (by omega)
      cases e
      have hb : g < w.heap.size := World.block_lt_of_cell? w ⟨g, o + 0, none⟩ (hc 0 (by omega))
      refine (clone_any g o n c z w hn (fun _ => hb) hc).mono ?_
      rintro e w' ⟨rfl, hrow, hbel, hsz⟩
      exact ⟨⟨_, n, rfl, Nat.le_refl _, (fun q => by cases q), fun _ => ⟨w.heap.size, rfl, Nat.le_refl _, hrow.lt, fun j hj => by rw [Nat.zero_add]; exact hrow.cell hj⟩⟩, hbel⟩

set_option maxHeartbeats 1000000 in
theorem clonel_empty (x : Addr) (c : Nat) (w : World) :
    Calls Tryd.prog 14 #[.slice (some x) 0 c] w fun e w' => e = .returned (.slice (some ⟨w.heap.size, 0, none⟩) 0 0) ∧ Below w.heap.size w w' := by
  have q25 : ∀ (w : World) (a : Option Addr) (n c n' c' : Nat), (binOp .eql 25 (.slice a n c) (.slice none n' c')).run Tryd.prog w = .ok (.bool a.isNone) w := fun w a n c n' c' => Lib.run_eql_slice_nil w _ _ a n c n' c' Tryd.underlying25
  have hmk := run_make_row' (P := Tryd.prog) 25 40 (.int .u64 0) 8 Tryd.underlying25 Tryd.info40c rfl .i64 .i64 0 (by omega) (by omega)
  rw [show ((0 : Nat) : Int) = 0 by omega] at hmk
  go_enter Tryd.func14, Tryd.ntmps14
  go_wp2
  refine wp_loop_rounds 1 ?_
  rw [rounds_succ]
  go_wp2
  go_ret
  exact ⟨rfl, (Below.refl _ _).alloc (Nat.le_refl _) _⟩

theorem clonel_gen (a : Option Addr) (n c : Nat) (z : Nat → Int) (w : World) (hn : n ≤ 1048577) (h : Sl w .u64 a n c z) : Calls Tryd.prog 14 #[.slice a n c] w (ClEnd .u64 n z w) := by
  cases a with
  | none =>
    obtain ⟨rfl, rfl⟩ := h.isnil rfl
    refine (clonel_nil w).mono ?_
    rintro e w' ⟨rfl, rfl⟩
    exact ⟨⟨none, 0, rfl, Nat.le_refl _, fun _ => ⟨rfl, rfl⟩, fun q => by omega⟩, Below.refl _ _⟩
  | some x =>
    by_cases h0 : n = 0
    · subst h0
      refine (clonel_empty x c w).mono ?_
      rintro e w' ⟨rfl, hb⟩
      exact ⟨⟨_, 0, rfl, Nat.le_refl _, (fun q => by cases q), fun q => by omega⟩, hb⟩
    · obtain ⟨g, o, e, hc⟩ := h.cell (by omega)
      cases e
      have hb : g < w.heap.size := World.block_lt_of_cell? w ⟨g, o + 0, none⟩ (hc 0 (by omega))
      refine (clonel_any g o n c z w hn (fun _ => hb) hc).mono ?_
      rintro e w' ⟨rfl, hrow, hbel, hsz⟩
      exact ⟨⟨_, n, rfl, Nat.le_refl _, (fun q => by cases q), fun _ => ⟨w.heap.size, rfl, Nat.le_refl _, hrow.lt, fun j hj => by rw [Nat.zero_add]; exact hrow.cell hj⟩⟩, hbel⟩
end Go.Proofs.Qxb6605555aDoor
