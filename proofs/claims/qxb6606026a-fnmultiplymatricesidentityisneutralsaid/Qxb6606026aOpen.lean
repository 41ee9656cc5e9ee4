import Derived.Test.Qxb6606026aLawT
import Derived.Deep.Slices
import Derived.Deep.Matrix
import Derived.ProofKit
import Derived.OpenShut
namespace Go.Proofs.Qxb6606026a
open Go.RowKit Go.Deep Go.ChangeShapes Go.WideShapes

section
variable {H : Type} {enc : TypeId × Value → H} {w : World} {base : Nat} {spare : Nat → Bool} {held : Bool}

theorem trod_f64 {fuel : Nat} {cs : List Value} {x : DataW H × List MemPlace} (h : DataW.trod enc Try.prog w base spare held fuel 31 cs = some x) : ∃ b, cs = [.float .f64 b] := by
  cases fuel with
  | zero => simp [DataW.trod] at h
  | succ n =>
    unfold DataW.trod at h
    simp only [Try.underlying31] at h
    split at h <;> simp_all

theorem addr_plain (a : Addr) (h : a.spot = none) (i : Nat) : a.add i = ⟨a.block, a.off + i, none⟩ := by
  obtain ⟨b, o, s⟩ := a
  simp only at h
  subst h
  exact add_plain ..

theorem open_frow {fuel : Nat} {V : Value} {x : DataW H × List MemPlace} (h : DataW.trod enc Try.prog w base spare held fuel 28 [V] = some x) :
    ∃ y : Option Addr × Nat × Nat × Nat × Nat × (Nat → Nat), V = .slice y.1 y.2.1 y.2.2.1 ∧ (0 < y.2.1 → y.1 = some ⟨y.2.2.2.1, y.2.2.2.2.1, none⟩) ∧
      ∀ j, j < y.2.1 → w.cell? ⟨y.2.2.2.1, y.2.2.2.2.1 + j, none⟩ = some (.float .f64 (y.2.2.2.2.2 j)) := by
  rcases open_slice1 Try.underlying28 (by kernel_rfl) h with ⟨hcs, _⟩ | ⟨a, len, cap, m, n, V', D, Pl, hcs, hb, hl, hm, hmm, _, hx⟩
  · exact ⟨(none, 0, 0, 0, 0, fun _ => 0), by simpa using hcs, fun q => absurd q (Nat.not_lt_zero _), fun j hj => absurd hj (Nat.not_lt_zero _)⟩
  · have hle : len ≤ m := by rw [hmm]; split <;> omega
    obtain ⟨X, hX⟩ := choose_lt (α := Nat) (n := len) (p := fun i b => V' i = .float .f64 b) (fun i hi => by
      obtain ⟨b, hb⟩ := trod_f64 (hx i (by omega)).2
      exact ⟨b, by simpa using hb⟩)
    refine ⟨(some a, len, cap, a.block, a.off, X), by simpa using hcs, fun q => ?_, fun j hj => ?_⟩
    · have hsp : a.spot = none := by simpa [Addr.add] using World.cell?_spot (hx 0 (by show 0 < m; simp only at q; omega)).1
      obtain ⟨b, o, s⟩ := a
      simp only at hsp
      subst hsp
      rfl
    · simp only at hj
      have h1 := (hx j (by omega)).1
      have hsp : a.spot = none := by simpa [Addr.add] using World.cell?_spot (hx 0 (by omega)).1
      rw [addr_plain a hsp, hX j hj] at h1
      exact h1

/-- A slice of rows of floats, opened. -/
theorem open_rows2 {fuel : Nat} {a : Option Addr} {n c : Nat} {x : DataW H × List MemPlace} (h : DataW.trod enc Try.prog w base spare held fuel 25 [.slice a n c] = some x) :
    ∃ L X, Rows2 w a n L X := by
  rcases open_slice1 Try.underlying25 (by kernel_rfl) h with ⟨hcs, _⟩ | ⟨a', len, cap, m, q, V, D, Pl, hcs, hb, hl, hm, hmm, _, hx⟩
  · simp at hcs
    obtain ⟨rfl, rfl, rfl⟩ := hcs
    exact ⟨fun _ => 0, fun _ _ => 0, by simp, ⟨fun q => absurd q (Nat.not_lt_zero _)⟩, fun _ => ⟨fun q => absurd q (Nat.not_lt_zero _)⟩⟩
  · simp at hcs
    obtain ⟨rfl, rfl, rfl⟩ := hcs
    have hle : n ≤ m := by rw [hmm]; split <;> omega
    obtain ⟨y, hy⟩ := choose_lt (n := n) (p := fun i (y : Option Addr × Nat × Nat × Nat × Nat × (Nat → Nat)) => V i = .slice y.1 y.2.1 y.2.2.1 ∧ (0 < y.2.1 → y.1 = some ⟨y.2.2.2.1, y.2.2.2.2.1, none⟩) ∧
      ∀ j, j < y.2.1 → w.cell? ⟨y.2.2.2.1, y.2.2.2.2.1 + j, none⟩ = some (.float .f64 (y.2.2.2.2.2 j))) (fun i hi => open_frow (hx i (by omega)).2)
    have hcell : 0 < n → a'.spot = none := fun hn => by simpa [Addr.add] using World.cell?_spot (hx 0 (by omega)).1
    have hA : 0 < n → some a' = some (⟨a'.block, a'.off, none⟩ : Addr) := fun hn => by
      have := hcell hn
      obtain ⟨b, o, s⟩ := a'
      simp only at this
      subst this
      rfl
    refine ⟨fun i => (y i).2.1, fun i j => (y i).2.2.2.2.2 j, by unfold maxLen at hm; omega, ⟨fun hn => ⟨a'.block, a'.off, fun i => (y i).1, fun i => (y i).2.2.1, hA hn, fun i hi => ?_⟩⟩, fun hL => ⟨fun hn => ⟨a'.block, a'.off, fun i => (y i).2.2.2.1, fun i => (y i).2.2.2.2.1, fun i => (y i).2.2.1, hA hn, fun i hi => ?_, fun i j hi hj => ?_⟩⟩⟩
    · have h1 := (hx i (by omega)).1
      rw [addr_plain a' (hcell hn), (hy i hi).1] at h1
      exact h1
    · have h1 := (hx i (by omega)).1
      have e := hL i hi
      rw [addr_plain a' (hcell hn), (hy i hi).1, (hy i hi).2.1 (by omega)] at h1
      rw [h1, e]
    · exact (hy i hi).2.2 j (by have := hL i hi; omega)
end
end Go.Proofs.Qxb6606026a
