import Derived.Test.Qxb6606026aRows
import Derived.WalkKit
import Derived.WalkLawsBesides
import Derived.Below
import Derived.Deep.LoopGhost
import Derived.Deep.OwnRows
import Derived.Deep.Light
import Derived.Deep.Draws
namespace Go.Proofs.Qxb6606026a
open Go.RowKit

theorem hid {p : Prop} (h : p) : Hid p := h

theorem Try.info31 : (Try.prog.info? 31).map (fun i => (i.zero, i.size, i.bytes)) = some (some (.float .f64 0), 1, 8) := by kernel_rfl
theorem Try.info28 : (Try.prog.info? 28).map (fun i => (i.zero, i.size, i.bytes)) = some (some (.slice none 0 0), 1, 24) := by kernel_rfl

/-- The bits of a NaN. -/
def NaNB (r : Nat) : Prop := ∃ s t, Ieee.double.read r = .nan s t

/-- What an operation on two floats may give. -/
def FRel (op : BinOp) (x y r : Nat) : Prop := floatBits op .f64 x y = some r ∨ (floatBits op .f64 x y = none ∧ NaNB r)

theorem nan_cut (x y t : Nat) : NaNB (Question.cut (.nanBits .f64 x y) t) := by
  show NaNB ((t % 2) * 2 ^ 63 + 0x7ff0000000000000 + 1 + (t / 2) % (2 ^ 52 - 1))
  have h1 : (t / 2) % (2 ^ 52 - 1) < 2 ^ 52 - 1 := Nat.mod_lt _ (by decide)
  generalize (t / 2) % (2 ^ 52 - 1) = q at *
  have h2 : t % 2 < 2 := Nat.mod_lt _ (by decide)
  generalize t % 2 = s at *
  have hr : (s * 2 ^ 63 + 0x7ff0000000000000 + 1 + q) % 9223372036854775808 = 0x7ff0000000000000 + 1 + q := by omega
  refine ⟨(s * 2 ^ 63 + 0x7ff0000000000000 + 1 + q) / 9223372036854775808 % 2 == 1, 0x7ff0000000000000 + 1 + q - 9218868437227405312, ?_⟩
  unfold Ieee.Format.read
  have e1 : Ieee.double.signWeight = 9223372036854775808 := by decide
  have e2 : Ieee.double.binade = 4503599627370496 := by decide
  have e3 : Ieee.double.infRung = 9218868437227405312 := by decide
  simp only [e1, e2, e3, hr]
  rw [if_neg (by omega), if_neg (by omega), if_neg (by omega)]

/-- '+', '-', '*' on two floats: some bits that the operation may give. -/
theorem wpList_float {P : Program} (w : World) {ops : Array Oper} {rest : List Oper} {o : Oper} {a : Act} {Q : Exit → Act → World → Prop}
    (hg : o.guard = none) (op : BinOp) (t t' : TypeId) (x y : Operand) (hop : o.op = Op.binOp op t x y t') (ho : op = .add ∨ op = .mul ∨ op = .sub) (X Y : Nat) (hx : a.eval x = .float .f64 X) (hy : a.eval y = .float .f64 Y)
    (hK : ∀ r q, FRel op X Y r → wpList P ops Q rest (a.put o.dst (.float .f64 r)) (w.drewN q)) :
    wpList P ops Q (o :: rest) a w := by
  refine wpList_plain hg fun K hK' => ?_
  unfold Oper.wp
  cases hb : floatBits op .f64 X Y with
  | some r =>
    have hrun := run_float_arith (P := P) w op t .f64 X Y r hb
    rcases ho with rfl | rfl | rfl <;>
    · simp [execOp, hop, hx, hy, hrun, Result.andThen, eqGuard]
      exact hK' _ _ (hK r 0 (.inl hb))
  | none =>
    have hn := nan_cut X Y (w.tape w.drawn (.nanBits .f64 X Y))
    have hrun : (binOp op t (.float .f64 X) (.float .f64 Y)).run P w = .ok (.float .f64 (Question.cut (.nanBits .f64 X Y) (w.tape w.drawn (.nanBits .f64 X Y)))) w.drew := by
      rcases ho with rfl | rfl | rfl <;>
      · simp only [floatBits] at hb
        simp [binOp, Op.floatArith, hb, Question.forced]
    generalize Question.cut (.nanBits .f64 X Y) (w.tape w.drawn (.nanBits .f64 X Y)) = r at *
    rcases ho with rfl | rfl | rfl <;>
    · simp [execOp, hop, hx, hy, hrun, Result.andThen, eqGuard]
      exact hK' _ _ (hK r 1 (.inr ⟨hb, hn⟩))

/-- A float is stored as it stands. -/
theorem run_store_float (P : Program) (w : World) (a : Addr) (b : Nat) (m : Mode) : (store a (.float .f64 b) m).run P w = stored P w a (.float .f64 b) m := run_store P w a _ m rfl

/-- A square matrix of floats that can be read. -/
structure Mat (w : World) (a : Option Addr) (n : Nat) (X : Nat → Nat → Nat) : Prop where
  ex : 0 < n → ∃ (g o : Nat) (RG RO RC : Nat → Nat), a = some ⟨g, o, none⟩ ∧ (∀ i, i < n → w.cell? ⟨g, o + i, none⟩ = some (.slice (some ⟨RG i, RO i, none⟩) n (RC i))) ∧
    ∀ i j, i < n → j < n → w.cell? ⟨RG i, RO i + j, none⟩ = some (.float .f64 (X i j))

theorem Mat.below {w w' : World} {a : Option Addr} {n : Nat} {X : Nat → Nat → Nat} (h : Mat w a n X) (hb : Below w.heap.size w w') : Mat w' a n X :=
  ⟨fun hn => by
    obtain ⟨g, o, RG, RO, RC, e, h1, h2⟩ := h.ex hn
    exact ⟨g, o, RG, RO, RC, e, fun i hi => (hb.cell (World.block_lt_of_cell? w _ (h1 i hi))).trans (h1 i hi), fun i j hi hj => (hb.cell (World.block_lt_of_cell? w _ (h2 i j hi hj))).trans (h2 i j hi hj)⟩⟩

/-- The new matrix's row of rows, when r of them are made. -/
def top (N n r : Nat) : Nat → Value := fun j => if j < r then .slice (some ⟨N + 1 + j, 0, none⟩) n n else .slice none 0 0

/-- r rows of a new matrix are made. -/
structure Outer (w wr : World) (n r : Nat) (Z : Nat → Nat → Nat) : Prop where
  bel : Below w.heap.size w wr
  size : wr.heap.size = w.heap.size + 1 + r
  top : wr.rowIs w.heap.size 28 n (top w.heap.size n r)
  done : ∀ j, j < r → wr.rowIs (w.heap.size + 1 + j) 31 n (fun c => .float .f64 (Z j c))

/-- .. and row r is in the making. -/
structure Inner (w wi : World) (n r : Nat) (Z : Nat → Nat → Nat) (zz : Nat → Nat) : Prop where
  bel : Below w.heap.size w wi
  size : wi.heap.size = w.heap.size + 1 + r + 1
  top : wi.rowIs w.heap.size 28 n (top w.heap.size n (r + 1))
  done : ∀ j, j < r → wi.rowIs (w.heap.size + 1 + j) 31 n (fun c => .float .f64 (Z j c))
  cur : wi.rowIs (w.heap.size + 1 + r) 31 n (fun i => .float .f64 (zz i))

theorem outer_start (w : World) (n : Nat) (Z : Nat → Nat → Nat) : Outer w (w.alloc (.cells (madeCells #[.slice none 0 0] n) 28)) n 0 Z :=
  ⟨(Below.refl _ _).alloc (Nat.le_refl _) _, by simp, (World.rowIs_made w _ n 28).congr (fun j _ => by simp [Qxb6606026a.top]), fun j hj => absurd hj (Nat.not_lt_zero _)⟩

theorem inner_start {w wr : World} {n r : Nat} {Z : Nat → Nat → Nat} (h : Outer w wr n r Z) :
    Inner w ((wr.alloc (.cells (madeCells #[.float .f64 0] n) 31)).setCell ⟨w.heap.size, r, none⟩ (.slice (some ⟨wr.heap.size, 0, none⟩) n n)) n r Z (fun _ => 0) := by
  have hnew := World.rowIs_made wr (.float .f64 0) n 31
  rw [h.size] at hnew
  refine ⟨(h.bel.alloc (by rw [h.size]; omega) _).setCell (Nat.le_refl _) _, by simp [h.size], ((h.top.alloc _).set r _).congr (fun j _ => ?_), fun j hj => ((h.done j hj).alloc _).setOther (by show w.heap.size + 1 + j ≠ w.heap.size; omega) _,
    (hnew.setOther (by show w.heap.size + 1 + r ≠ w.heap.size; omega) _).congr (fun i _ => by simp)⟩
  simp only [Qxb6606026a.top]
  by_cases e : j = r
  · subst e; simp [h.size]
  · rw [if_neg e]
    by_cases hlt : j < r
    · rw [if_pos hlt, if_pos (by omega)]
    · rw [if_neg hlt, if_neg (by omega)]

theorem inner_draw {w wi : World} {n r : Nat} {Z : Nat → Nat → Nat} {zz : Nat → Nat} (h : Inner w wi n r Z zz) (q : Nat) : Inner w (wi.drewN q) n r Z zz :=
  ⟨⟨h.bel.os, h.bel.tape, h.bel.output, h.bel.size, h.bel.block⟩, h.size, h.top, h.done, h.cur⟩

theorem inner_step {w wi : World} {n r : Nat} {Z : Nat → Nat → Nat} {zz : Nat → Nat} (h : Inner w wi n r Z zz) (c v : Nat) :
    Inner w (wi.setCell ⟨w.heap.size + 1 + r, c, none⟩ (.float .f64 v)) n r Z (fun j => if j = c then v else zz j) := by
  refine ⟨h.bel.setCell (by show w.heap.size ≤ w.heap.size + 1 + r; omega) _, by simp [h.size], h.top.setOther (by show w.heap.size ≠ w.heap.size + 1 + r; omega) _,
    fun j hj => (h.done j hj).setOther (by show w.heap.size + 1 + j ≠ w.heap.size + 1 + r; omega) _, (h.cur.set c _).congr (fun i _ => ?_)⟩
  by_cases e : i = c
  · rw [if_pos e, if_pos e]
  · rw [if_neg e, if_neg e]

theorem inner_done {w wi : World} {n r : Nat} {Z : Nat → Nat → Nat} {zz : Nat → Nat} (h : Inner w wi n r Z zz) : Outer w wi n (r + 1) (fun i j => if i = r then zz j else Z i j) :=
  ⟨h.bel, by rw [h.size]; omega, h.top, fun j hj => by
    by_cases e : j = r
    · subst e
      exact h.cur.congr (fun i hi => by rw [if_pos rfl])
    · exact (h.done j (by omega)).congr (fun i hi => by rw [if_neg e])⟩

/-- The whole matrix reads. -/
theorem Outer.mat {w wr : World} {n : Nat} {Z : Nat → Nat → Nat} (h : Outer w wr n n Z) : Mat wr (some ⟨w.heap.size, 0, none⟩) n Z :=
  ⟨fun hn => ⟨w.heap.size, 0, fun i => w.heap.size + 1 + i, fun _ => 0, fun _ => n, rfl,
    fun i hi => by rw [Nat.zero_add, h.top.cell hi, Qxb6606026a.top, if_pos hi], fun i j hi hj => by rw [Nat.zero_add]; exact (h.done i hi).cell hj⟩⟩
end Go.Proofs.Qxb6606026a
