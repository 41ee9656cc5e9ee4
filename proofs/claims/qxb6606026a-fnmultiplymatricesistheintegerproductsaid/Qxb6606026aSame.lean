import Derived.Test.Qxb6606026aBase
namespace Go.Proofs.Qxb6606026a
open Go.RowKit

/-- Equal, or both no numbers. -/
def SameF (x y : Nat) : Prop := Ieee.double.order x y = some .eq ∨ (Ieee.double.order x x ≠ some .eq ∧ Ieee.double.order y y ≠ some .eq)

structure YesEnd (w : World) (e : Ending) (w' : World) : Prop where
  res : e = .returned (.bool true)
  same : w' = w

set_option maxRecDepth 100000 in
set_option maxHeartbeats 1000000 in
theorem same_yes (x y : Nat) (w : World) (h : SameF x y) : Calls Try.prog 16 #[.float .f64 x, .float .f64 y] w (YesEnd w) := by
  by_cases h1 : Ieee.double.order x y = some .eq
  · have e1 : (FloatKind.f64.format.order x y == some Ordering.eq) = true := by
      show (Ieee.double.order x y == some .eq) = true
      rw [h1]; rfl
    clear h1 h
    go_enter Try.func16, Try.ntmps16
    go_wp2
    go_ret
    exact ⟨rfl, rfl⟩
  · obtain ⟨h2, h3⟩ : Ieee.double.order x x ≠ some .eq ∧ Ieee.double.order y y ≠ some .eq := by
      rcases h with h | h
      · exact absurd h h1
      · exact h
    have e1 : (FloatKind.f64.format.order x y == some Ordering.eq) = false := beq_eq_false_iff_ne.2 h1
    have e2 : (FloatKind.f64.format.order x x != some Ordering.eq) = true := bne_iff_ne.2 h2
    have e3 : (FloatKind.f64.format.order y y != some Ordering.eq) = true := bne_iff_ne.2 h3
    clear h1 h2 h3 h
    go_enter Try.func16, Try.ntmps16
    go_wp2
    go_ret
    exact ⟨rfl, rfl⟩

theorem order_self {x : Nat} (h : ¬ NaNB x) : Ieee.double.order x x = some .eq := by
  unfold Ieee.Format.order
  cases hr : Ieee.double.read x with
  | nan s t => exact absurd ⟨s, t, hr⟩ h
  | infinity s =>
    simp only [Ieee.Datum.order]
    cases s <;> rfl
  | number s m i =>
    simp only [Ieee.Datum.order]
    congr 1
    exact Std.ReflCmp.compare_self

theorem order_nan {x : Nat} (h : NaNB x) : Ieee.double.order x x ≠ some .eq := by
  obtain ⟨s, t, hr⟩ := h
  unfold Ieee.Format.order
  rw [hr]
  simp [Ieee.Datum.order]

/-- The same bits, or two NaNs. -/
def Eqn (x y : Nat) : Prop := x = y ∨ (NaNB x ∧ NaNB y)

theorem Eqn.same {x y : Nat} (h : Eqn x y) : SameF x y := by
  rcases h with rfl | ⟨h1, h2⟩
  · by_cases hx : NaNB x
    · exact .inr ⟨order_nan hx, order_nan hx⟩
    · exact .inl (order_self hx)
  · exact .inr ⟨order_nan h1, order_nan h2⟩

theorem product_comm (d e : Ieee.Datum) : d.product e = e.product d := by
  cases d <;> cases e <;> simp only [Ieee.Datum.product, Bool.xor_comm, Nat.mul_comm, Int.add_comm]
  all_goals first | rfl | (rename_i s t; cases s <;> cases t <;> rfl) | skip

theorem mul_comm_bits (x y : Nat) : floatBits .mul .f64 x y = floatBits .mul .f64 y x := by
  show Ieee.double.mul x y = Ieee.double.mul y x
  unfold Ieee.Format.mul
  rw [product_comm]

theorem mul_eqn {x y p p' : Nat} (h : FRel .mul x y p) (h' : FRel .mul y x p') : Eqn p p' := by
  unfold FRel at h h'
  rw [mul_comm_bits y x] at h'
  rcases h with h | ⟨h, hp⟩
  · rcases h' with h' | ⟨h', hp'⟩
    · exact .inl (Option.some.inj (h.symm.trans h'))
    · rw [h] at h'; cases h'
  · rcases h' with h' | ⟨h', hp'⟩
    · rw [h] at h'; cases h'
    · exact .inr ⟨hp, hp'⟩

theorem sum_nan_left {d e : Ieee.Datum} (h : ∃ s t, d = .nan s t) : d.sum e = none := by
  obtain ⟨s, t, rfl⟩ := h
  cases e <;> rfl

theorem sum_nan_right {d e : Ieee.Datum} (h : ∃ s t, e = .nan s t) : d.sum e = none := by
  obtain ⟨s, t, rfl⟩ := h
  cases d <;> rfl

theorem add_nan_left {x y r : Nat} (h : NaNB x) (hr : FRel .add x y r) : NaNB r := by
  have e : floatBits .add .f64 x y = none := by
    show Ieee.double.add x y = none
    unfold Ieee.Format.add
    rw [sum_nan_left h]; rfl
  rcases hr with g | ⟨_, g⟩
  · rw [e] at g; cases g
  · exact g

theorem add_nan_right {x y r : Nat} (h : NaNB y) (hr : FRel .add x y r) : NaNB r := by
  have e : floatBits .add .f64 x y = none := by
    show Ieee.double.add x y = none
    unfold Ieee.Format.add
    rw [sum_nan_right h]; rfl
  rcases hr with g | ⟨_, g⟩
  · rw [e] at g; cases g
  · exact g

theorem add_eqn {x x' y y' r r' : Nat} (hx : Eqn x x') (hy : Eqn y y') (h : FRel .add x y r) (h' : FRel .add x' y' r') : Eqn r r' := by
  rcases hx with rfl | ⟨h1, h2⟩
  · rcases hy with rfl | ⟨h1, h2⟩
    · rcases h with g | ⟨g, q⟩
      · rcases h' with g' | ⟨g', q'⟩
        · exact .inl (Option.some.inj (g.symm.trans g'))
        · rw [g] at g'; cases g'
      · rcases h' with g' | ⟨g', q'⟩
        · rw [g] at g'; cases g'
        · exact .inr ⟨q, q'⟩
    · exact .inr ⟨add_nan_right h1 h, add_nan_right h2 h'⟩
  · exact .inr ⟨add_nan_left h1 h, add_nan_left h2 h'⟩
end Go.Proofs.Qxb6606026a
