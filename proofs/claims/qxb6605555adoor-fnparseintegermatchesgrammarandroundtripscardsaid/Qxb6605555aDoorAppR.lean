import Derived.Test.Qxb6605555aDoorApp22
import Derived.WalkKit
import Derived.Below
namespace Go.Proofs.Qxb6605555aDoor
open Go.RowKit

/-- A limb as 18 digits. -/
def pad18 (u : Nat) : List UInt8 := List.replicate (18 - (Lib.decDigits u).length) 48 ++ Lib.decDigits u
/-- The limbs q-1, .., 0 as 18 digits each. -/
def lowText (f : Nat → Nat) : Nat → List UInt8
  | 0 => []
  | q + 1 => pad18 (f q) ++ lowText f q
/-- The decimal text of L limbs, L not 0. -/
def bigText (f : Nat → Nat) (L : Nat) : List UInt8 := Lib.decDigits (f (L - 1)) ++ lowText f (L - 1)

theorem pad18_length (u : Nat) (hu : u < 1000000000000000000) : (pad18 u).length = 18 := by
  have := dec_le18 u hu
  simp [pad18]; omega
theorem lowText_length (f : Nat → Nat) : ∀ q, (∀ j, j < q → f j < 1000000000000000000) → (lowText f q).length = 18 * q
  | 0, _ => rfl
  | q + 1, h => by
    rw [lowText, List.length_append, pad18_length _ (h q (by omega)), lowText_length f q (fun j hj => h j (by omega))]; omega
theorem bigText_length (f : Nat → Nat) (L : Nat) (hL : 0 < L) (h : ∀ j, j < L → f j < 1000000000000000000) : (bigText f L).length ≤ 18 * L := by
  rw [bigText, List.length_append, lowText_length f (L - 1) (fun j hj => h j (by omega))]
  have := dec_le18 (f (L - 1)) (h _ (by omega))
  omega

/-- The world while appendText goes: what is written, the receiver's box, what was there before. -/
structure AppW (B rb : Nat) (c0 : Value) (c1 : Value) (w : World) (v : Value) (k : Nat) (cs : List Value) (wr : World) : Prop where
  own : wr.ownsRow B 5 1 v k cs
  box : wr.heap[rb]? = some (.cells #[c0, c1] 37 (0, 0))
  bel : Below B w wr
  size : B ≤ wr.heap.size

theorem own_tag {w : World} {B : Nat} {v : Value} {k : Nat} {cs : List Value} (h : w.ownsRow B 5 1 v k cs) {g : Nat} {cur : Array Value} {t : TypeId} {fz : Nat × Nat} (hg : w.heap[g]? = some (.cells cur t fz)) (ht : t ≠ 5) : some g ≠ v.ownBlock := by
  intro e
  rcases h.2 with ⟨rfl, _⟩ | ⟨g', cap, cur', rfl, _, hh, _⟩
  · cases e
  · simp only [Value.ownBlock, Option.some.injEq] at e
    subst e
    rw [hh] at hg
    simp at hg
    exact ht hg.2.1.symm

theorem own_slice {w : World} {base : Nat} {e : TypeId} {v : Value} {n : Nat} {xs : List Value} (h : w.ownsRow base e 1 v n xs) : ∃ (a : Option Addr) (cap : Nat), v = .slice a n cap := by
  rcases h.2 with ⟨hv, hn⟩ | ⟨g, cap, cur, hv, _⟩
  · subst hn; exact ⟨_, _, hv⟩
  · exact ⟨_, _, hv⟩

section
variable {B rb : Nat} {c0 c1 : Value} {w wr w1 : World} {v v' : Value} {k k' : Nat} {cs cs' : List Value}

theorem AppW.cell0 (h : AppW B rb c0 c1 w v k cs wr) : wr.cell? ⟨rb, 0, none⟩ = some c0 := by simp [World.cell?, h.box]
theorem AppW.cell1 (h : AppW B rb c0 c1 w v k cs wr) : wr.cell? ⟨rb, 1, none⟩ = some c1 := by simp [World.cell?, h.box]

/-- Behind an append (one block laid ahead of it). -/
theorem AppW.app {o : Obj} (h : AppW B rb c0 c1 w v k cs wr) (hown : w1.ownsRow B 5 1 v' k' cs') (hg : (wr.alloc o).grownBy w1 v.ownBlock) : AppW B rb c0 c1 w v' k' cs' w1 := by
  have hsz : (wr.alloc o).heap.size = wr.heap.size + 1 := by simp
  have hs := h.size
  have hgs := hg.size
  have hrb : rb < wr.heap.size := (Array.getElem?_eq_some_iff.1 h.box).1
  refine ⟨hown, ?_, ?_, by omega⟩
  · rw [hg.block rb (by omega) (own_tag h.own h.box (by decide)), Below.heap_alloc _ _ _ hrb]; exact h.box
  · exact (h.bel.alloc h.size _).grown hg (by omega) (fun q e => (h.own.lt q e).1)

/-- Behind an append with no block ahead of it. -/
theorem AppW.app0 (h : AppW B rb c0 c1 w v k cs wr) (hown : w1.ownsRow B 5 1 v' k' cs') (hg : wr.grownBy w1 v.ownBlock) : AppW B rb c0 c1 w v' k' cs' w1 := by
  have hs := h.size
  have hgs := hg.size
  have hrb : rb < wr.heap.size := (Array.getElem?_eq_some_iff.1 h.box).1
  refine ⟨hown, ?_, ?_, by omega⟩
  · rw [hg.block rb hrb (own_tag h.own h.box (by decide))]; exact h.box
  · exact h.bel.grown hg h.size (fun q e => (h.own.lt q e).1)

/-- Behind AppendUint. -/
theorem AppW.uint {T : List UInt8} {e : Ending} (h : AppW B rb c0 c1 w v k cs wr) (hE : OwnEnd B k cs T wr e w1) : ∃ v', e = .returned v' ∧ AppW B rb c0 c1 w v' (k + T.length) (cs ++ Lib.byteCells T) w1 := by
  obtain ⟨v', rfl, hown⟩ := hE.ex
  refine ⟨v', rfl, hown, ?_, h.bel.trans hE.bel, by have := hE.bel.size; have := h.size; omega⟩
  exact hE.others rb _ h.box (by simp) (fun c fz q => by simp at q)

/-- A new block. -/
theorem AppW.alloc (h : AppW B rb c0 c1 w v k cs wr) (o : Obj) : AppW B rb c0 c1 w v k cs (wr.alloc o) := by
  have hrb : rb < wr.heap.size := (Array.getElem?_eq_some_iff.1 h.box).1
  exact ⟨h.own.alloc _, by rw [Below.heap_alloc _ _ _ hrb]; exact h.box, h.bel.alloc h.size _, by have := h.size; simp; omega⟩

theorem AppW.drewN (h : AppW B rb c0 c1 w v k cs wr) (q : Nat) : AppW B rb c0 c1 w v k cs (wr.drewN q) :=
  ⟨h.own, h.box, h.bel.trans ⟨rfl, rfl, rfl, Nat.le_refl _, fun _ _ => rfl⟩, h.size⟩

/-- Behind AppendUint into the array tb. -/
theorem AppW.text {tb u : Nat} {e : Ending} (h : AppW B rb c0 c1 w v k cs wr) (htb : ∃ cur, wr.heap[tb]? = some (.cells cur 42 (0, 0)) ∧ cur.size = 18) (hB : B ≤ tb) (hE : TextEnd tb u wr e w1) : AppW B rb c0 c1 w v k cs w1 := by
  obtain ⟨cur, htb1, _⟩ := htb
  have hrb : rb < wr.heap.size := (Array.getElem?_eq_some_iff.1 h.box).1
  have hne : rb ≠ tb := fun q => by
    have := h.box; rw [q, htb1] at this; simp at this
  have hg := hE.kept
  refine ⟨?_, ?_, ?_, by have := hg.size; have := h.size; omega⟩
  · obtain ⟨h1, h2⟩ := h.own
    refine ⟨h1, ?_⟩
    rcases h2 with h2 | ⟨g, cap, cur', hv, hgB, hh, r⟩
    · exact .inl h2
    · have hgt : g ≠ tb := fun q => by rw [q, htb1] at hh; simp at hh
      exact .inr ⟨g, cap, cur', hv, hgB, by rw [hg.block g (Array.getElem?_eq_some_iff.1 hh).1 (by simpa using hgt)]; exact hh, r⟩
  · rw [hg.block rb hrb (by simpa using hne)]; exact h.box
  · exact h.bel.grown hg h.size (fun q e => by simp at e; omega)

/-- The array is as it was behind an append. -/
theorem AppW.arr {o : Obj} {tb : Nat} {cur : Array Value} (h : AppW B rb c0 c1 w v k cs wr) (htb : wr.heap[tb]? = some (.cells cur 42 (0, 0))) (hg : (wr.alloc o).grownBy w1 v.ownBlock) : w1.heap[tb]? = some (.cells cur 42 (0, 0)) := by
  have htl : tb < wr.heap.size := (Array.getElem?_eq_some_iff.1 htb).1
  rw [hg.block tb (by simp; omega) (own_tag h.own htb (by decide)), Below.heap_alloc _ _ _ htl]; exact htb
theorem AppW.arr0 {tb : Nat} {cur : Array Value} (h : AppW B rb c0 c1 w v k cs wr) (htb : wr.heap[tb]? = some (.cells cur 42 (0, 0))) (hg : wr.grownBy w1 v.ownBlock) : w1.heap[tb]? = some (.cells cur 42 (0, 0)) := by
  have htl : tb < wr.heap.size := (Array.getElem?_eq_some_iff.1 htb).1
  rw [hg.block tb htl (own_tag h.own htb (by decide))]; exact htb
end

theorem text_arr {tb u : Nat} {w w1 : World} {e : Ending} (h : TextEnd tb u w e w1) : ∃ cur : Array Value, w1.heap[tb]? = some (.cells cur 42 (0, 0)) ∧ cur.size = 18 ∧ ∀ (j : Nat) (x : Value), (Lib.byteCells (Lib.decDigits u))[j]? = some x → cur[j]? = some x := by
  obtain ⟨cur, h1, h2⟩ := h.row
  refine ⟨cur, h1, h2, fun j x hj => ?_⟩
  have := h.cell j x hj
  simpa [World.cell?, h1] using this

theorem zeros_cells (i : Nat) : Lib.byteCells (List.replicate (i + 1) 48) = Lib.byteCells (List.replicate i 48) ++ [Value.int .u8 48] := by
  rw [List.replicate_succ', Lib.byteCells_append]; rfl
end Go.Proofs.Qxb6605555aDoor
