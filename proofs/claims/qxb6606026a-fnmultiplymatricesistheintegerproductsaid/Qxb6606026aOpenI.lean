import Derived.Test.Qxb6606026aLawN
import Derived.Deep.Slices
import Derived.Deep.Matrix
import Derived.ProofKit
import Derived.OpenShut
namespace Go.Proofs.Qxb6606026a
open Go.RowKit Go.Deep Go.ChangeShapes Go.WideShapes

section
variable {H : Type} {enc : TypeId × Value → H} {w : World} {base : Nat} {held : Bool}

theorem addr_plainI (a : Addr) (h : a.spot = none) (i : Nat) : a.add i = ⟨a.block, a.off + i, none⟩ := by
  obtain ⟨b, o, s⟩ := a
  simp only at h
  subst h
  exact add_plain ..

theorem addr_spot {a : Addr} {v : Value} (h : w.cell? (a.add 0) = some v) : a.spot = none := by simpa [Addr.add] using World.cell?_spot h

theorem addr_eta {a : Addr} (h : a.spot = none) : some a = some (⟨a.block, a.off, none⟩ : Addr) := by
  obtain ⟨b, o, s⟩ := a
  simp only at h
  subst h
  rfl

/-- A slice of rows of int16s, opened. -/
theorem open_rowsI {fuel : Nat} {a : Option Addr} {n c : Nat} {x : DataW H × List MemPlace} (h : DataW.trod enc Try.prog w base (fun _ => true) held fuel 22 [.slice a n c] = some x) :
    ∃ L A, RowsI w a n L A := by
  rcases open_int_rows Try.underlying22 Try.underlying30 Try.underlying29 (by kernel_rfl) (by kernel_rfl) h with ⟨hcs, _⟩ | ⟨a', len, cap, RA, L, C, Z, hcs, hb, hl, hm, _, hx⟩
  · simp at hcs
    obtain ⟨rfl, rfl, rfl⟩ := hcs
    exact ⟨fun _ => 0, fun _ _ => 0, by simp, ⟨fun q => absurd q (Nat.not_lt_zero _)⟩, fun _ => ⟨fun i j hi _ => absurd hi (Nat.not_lt_zero _), fun q => absurd q (Nat.not_lt_zero _)⟩⟩
  · simp at hcs
    obtain ⟨rfl, rfl, rfl⟩ := hcs
    have hspot : 0 < n → a'.spot = none := fun hn => addr_spot (hx 0 (by omega)).1
    have hrow : ∀ i, i < n → w.cell? ⟨a'.block, a'.off + i, none⟩ = some (.slice (RA i) (L i) (C i)) := fun i hi => by
      have h1 := (hx i (by omega)).1
      rwa [addr_plainI a' (hspot (by omega))] at h1
    have hel : ∀ i, i < n → 0 < L i → ∃ y : Addr, RA i = some ⟨y.block, y.off, none⟩ ∧ ∀ j, j < L i → w.cell? ⟨y.block, y.off + j, none⟩ = some (.int .i16 ((Z i).getD j 0)) := fun i hi hL => by
      obtain ⟨_, l1, l2, l3, l4, l5, l6⟩ := hx i (by omega)
      cases hR : RA i with
      | none =>
        have := l5 hR
        omega
      | some y =>
        obtain ⟨_, hc⟩ := l6 y hR
        have hs : y.spot = none := addr_spot (hc 0 (by omega))
        exact ⟨y, addr_eta hs, fun j hj => by rw [← addr_plainI y hs]; exact hc j (by omega)⟩
    refine ⟨L, fun i j => (Z i).getD j 0, by unfold maxLen at hm; omega, ⟨fun hn => ⟨a'.block, a'.off, RA, C, addr_eta (hspot hn), hrow⟩⟩, fun hL => ⟨fun i j hi hj => ?_, fun hn => ?_⟩⟩
    · obtain ⟨_, l1, l2, l3, l4, l5, l6⟩ := hx i (by omega)
      have e := hL i hi
      have hlt : j < (Z i).length := by omega
      have hmem : (Z i).getD j 0 ∈ Z i := by
        rw [List.getD_eq_getElem?_getD, List.getElem?_eq_getElem hlt]
        exact List.getElem_mem hlt
      have := l4 _ hmem
      simp [Lit.wf, IntKind.min, IntKind.max] at this
      exact ⟨this.1, this.2⟩
    · obtain ⟨y, hy⟩ := choose_lt (n := n) (p := fun i (y : Addr) => RA i = some ⟨y.block, y.off, none⟩ ∧ ∀ j, j < L i → w.cell? ⟨y.block, y.off + j, none⟩ = some (.int .i16 ((Z i).getD j 0))) (fun i hi => hel i hi (by have := hL i hi; omega))
      refine ⟨a'.block, a'.off, fun i => (y i).block, fun i => (y i).off, C, addr_eta (hspot hn), fun i hi => ?_, fun i j hi hj => ?_⟩
      · rw [hrow i hi, (hy i hi).1, hL i hi]
      · exact (hy i hi).2 j (by have := hL i hi; omega)
end
end Go.Proofs.Qxb6606026a
