import Derived.Test.Qxb6605555aDoorRows
import Derived.Test.Qxb6605555aDoorParP
import Derived.WalkKit
import Derived.Below
namespace Go.Proofs.Qxb6605555aDoor
open Go.RowKit

/-- What holds of the world at the head of parseInteger's great loop: the integer that is built (block w.heap.size + 1 + 1), the result's place (block w.heap.size), the limbs so far. -/
structure ParRel (z : Nat → Int) (s m : Nat) (w : World) (k : Nat) (v : Value) (wr : World) : Prop where
  box : wr.heap[w.heap.size + 1 + 1]? = some (.cells #[.bool false, v] 37 (0, 0))
  res : wr.heap[w.heap.size]? = some (.cells #[.bool false, .slice none 0 0] 37 (0, 0))
  own : wr.ownsRow (w.heap.size + 3) 40 1 v k ((limbs z s m k).map (Value.int .u64))
  bel : Below w.heap.size w wr
  size : w.heap.size + 3 ≤ wr.heap.size

theorem heap_push_new (w : World) (o : Obj) : (w.alloc o).heap[w.heap.size]? = some o := by
  show (w.heap.push o)[w.heap.size]? = _
  simp

theorem par_start (z : Nat → Int) (s m : Nat) (w : World) (o : Obj) : ParRel z s m w 0 (.slice none 0 0) (((w.alloc (.cells #[.bool false, .slice none 0 0] 37)).alloc o).alloc (.cells #[.bool false, .slice none 0 0] 37)) := by
  have s1 : (w.alloc (.cells #[.bool false, .slice none 0 0] 37)).heap.size = w.heap.size + 1 := by simp
  have s2 : ((w.alloc (.cells #[.bool false, .slice none 0 0] 37)).alloc o).heap.size = w.heap.size + 1 + 1 := by simp
  refine ⟨?_, ?_, ?_, ?_, ?_⟩
  · rw [← s2]; exact heap_push_new _ _
  · rw [Below.heap_alloc _ _ _ (by omega), Below.heap_alloc _ _ _ (by omega)]; exact heap_push_new _ _
  · exact World.ownsRow_nil _ _ _ _
  · exact (((Below.refl _ _).alloc (Nat.le_refl _) _).alloc (by omega) _).alloc (by omega) _
  · simp

theorem own_slice_par {w : World} {base : Nat} {e : TypeId} {v : Value} {n : Nat} {xs : List Value} (h : w.ownsRow base e 1 v n xs) : ∃ (a : Option Addr) (cap : Nat), v = .slice a n cap := by
  rcases h.2 with ⟨hv, hn⟩ | ⟨g, cap, cur, hv, _⟩
  · subst hn; exact ⟨_, _, hv⟩
  · exact ⟨_, _, hv⟩

theorem own_pos {w : World} {base : Nat} {e : TypeId} {v : Value} {n : Nat} {xs : List Value} (h : w.ownsRow base e 1 v n xs) (hn : 0 < n) :
    ∃ g cap : Nat, v = .slice (some ⟨g, 0, none⟩) n cap ∧ base ≤ g ∧ g < w.heap.size ∧ n ≤ cap ∧ cap ≤ maxLen ∧ ∀ j u, xs[j]? = some u → w.cell? ⟨g, j, none⟩ = some u := by
  rcases h.2 with ⟨_, h0⟩ | ⟨g, cap, cur, hv, hg, hh, hnc, hcm, hsz, hx⟩
  · omega
  · refine ⟨g, cap, hv, hg, (Array.getElem?_eq_some_iff.1 hh).1, hnc, hcm, fun j u hj => ?_⟩
    have hl : j < xs.length := (List.getElem?_eq_some_iff.1 hj).1
    have hl2 := h.1
    rw [← hx, List.getElem?_take] at hj
    split at hj
    · simp only [World.cell?, hh]
      simpa using hj
    · cases hj

theorem ParRel.step {z : Nat → Int} {s m : Nat} {w wr w1 : World} {k : Nat} {v v' : Value} {o : Obj} (h : ParRel z s m w k v wr)
    (hown : w1.ownsRow (w.heap.size + 3) 40 1 v' (k + 1) ((limbs z s m k).map (Value.int .u64) ++ [.int .u64 (limbAt z s m k)])) (hg : (wr.alloc o).grownBy w1 v.ownBlock) :
    ParRel z s m w (k + 1) v' (w1.setCell ⟨w.heap.size + 1 + 1, 1, none⟩ v') := by
  have hsz : (wr.alloc o).heap.size = wr.heap.size + 1 := by simp
  have hs := h.size
  have hgs := hg.size
  have hne : ∀ q, q < w.heap.size + 3 → some q ≠ v.ownBlock := fun q hq e => by
    have := (h.own.lt q e.symm).1
    omega
  have hb : ∀ q, q < w.heap.size + 3 → w1.heap[q]? = wr.heap[q]? := fun q hq => by
    rw [hg.block q (by omega) (hne q hq), Below.heap_alloc _ _ _ (by omega)]
  refine ⟨?_, ?_, ?_, ?_, ?_⟩
  · have hx := (hb (w.heap.size + 1 + 1) (by omega)).trans h.box
    simp [World.setCell, Array.getElem?_modify, hx]
  · rw [Below.heap_setCell _ _ _ _ (by simp; omega), hb _ (by omega)]; exact h.res
  · refine ownsRow_setCell_below ?_ (by simp) _
    rw [limbs_succ, List.map_append]
    exact hown
  · refine Below.setCell ?_ (by simp; omega) _
    exact (h.bel.alloc (by omega) _).grown hg (by omega) (fun q e => by have := (h.own.lt q e).1; omega)
  · simp [World.setCell]; omega

theorem ParRel.after {z : Nat → Int} {s m : Nat} {w wr w1 : World} {k : Nat} {v : Value} {o : Obj} (h : ParRel z s m w k v wr) (hg : (wr.alloc o).grownBy w1 v.ownBlock) :
    w1.cell? ⟨w.heap.size + 1 + 1, 1, none⟩ = some v ∧ w1.frozen? ⟨w.heap.size + 1 + 1, 1, none⟩ = false := by
  have hsz : (wr.alloc o).heap.size = wr.heap.size + 1 := by simp
  have hs := h.size
  have hne : some (w.heap.size + 1 + 1) ≠ v.ownBlock := fun e => by
    have := (h.own.lt _ e.symm).1
    omega
  have hb : w1.heap[w.heap.size + 1 + 1]? = some (.cells #[.bool false, v] 37 (0, 0)) := by
    rw [hg.block _ (by omega) hne, Below.heap_alloc _ _ _ (by omega)]; exact h.box
  constructor
  · simp [World.cell?, hb]
  · simp [World.frozen?, hb]

/-- How parseInteger ends at a JSON integer. -/
def ParEnd (z : Nat → Int) (s m : Nat) (w : World) (e : Ending) (w' : World) : Prop :=
  ∃ (g L cap : Nat), e = .returned (.tuple #[.agg #[.bool (decide (s = 1) && decide (0 < L)), .slice (some ⟨g, 0, none⟩) L cap], .bool true]) ∧
    L = (if z s = 48 then 0 else limbN m) ∧ L ≤ cap ∧ w.heap.size ≤ g ∧ g < w'.heap.size ∧ (∀ k, k < L → w'.cell? ⟨g, k, none⟩ = some (.int .u64 (limbAt z s m k))) ∧ Below w.heap.size w w'

theorem cell_set_off (w : World) (a p : Addr) (v : Value) (h : p.block ≠ a.block) : (w.setCell a v).cell? p = w.cell? p :=
  World.cell?_of_block (w := w) (Below.heap_setCell w a v p.block h)

theorem par_fin {z : Nat → Int} {s m : Nat} {w wr : World} {g k cap L : Nat} {v : Value} (h : ParRel z s m w k v wr) (hg1 : w.heap.size + 3 ≤ g) (hg2 : g < wr.heap.size) (hk : k ≤ cap) (hL : L ≤ k)
    (hc : ∀ j, j < k → wr.cell? ⟨g, j, none⟩ = some (.int .u64 (limbAt z s m j))) (hE : L = if z s = 48 then 0 else limbN m) (B : Bool) (hB : B = (decide (s = 1) && decide (0 < L))) (a b c d : Value) :
    ParEnd z s m w (.returned (.tuple #[.agg #[.bool B, .slice (some ⟨g, 0, none⟩) L cap], .bool true]))
      ((((wr.setCell ⟨w.heap.size + 1 + 1, 1, none⟩ a).setCell ⟨w.heap.size + 1 + 1, 0, none⟩ b).setCell ⟨w.heap.size, 0, none⟩ c).setCell ⟨w.heap.size, 1, none⟩ d) := by
  refine ⟨g, L, cap, by rw [hB], hE, by omega, by omega, by simp [World.setCell]; omega, fun j hj => ?_, ?_⟩
  · rw [cell_set_off _ _ _ _ (by simp; omega), cell_set_off _ _ _ _ (by simp; omega), cell_set_off _ _ _ _ (by simp; omega), cell_set_off _ _ _ _ (by simp; omega)]
    exact hc j (by omega)
  · exact (((h.bel.setCell (by simp; omega) _).setCell (by simp; omega) _).setCell (by simp) _).setCell (by simp) _
end Go.Proofs.Qxb6605555aDoor
