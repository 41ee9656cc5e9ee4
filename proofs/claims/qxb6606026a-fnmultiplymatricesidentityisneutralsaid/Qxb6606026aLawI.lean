import Derived.Test.Qxb6606026aIdW
import Derived.Test.Qxb6606026aLawT
namespace Go.Proofs.Qxb6606026a
open Go.RowKit

theorem zero_zero : Zero 0 := ⟨false, by decide⟩

theorem read_one : Ieee.double.read 4607182418800017408 = .number false 4503599627370496 (-52) := by decide

/-- x up to the sign of zero. -/
def Like (s : Bool) (m : Nat) (i : Int) (r : Nat) : Prop := (m = 0 ∧ Zero r) ∨ (m ≠ 0 ∧ Ieee.double.read r = .number s m i)

theorem zero_add_zero {x y r : Nat} (hx : Zero x) (hy : Zero y) (h : FRel .add x y r) : Zero r := by
  obtain ⟨t, hy⟩ := hy
  rcases zero_add hx hy h with ⟨_, h⟩ | ⟨h, _⟩
  · exact h
  · exact absurd rfl h

theorem acc_pivot {X Y : Nat → Nat → Nat} {i j n v : Nat} {s : Bool} {m : Nat} {e : Int}
    (h0 : ∀ k, k < n → k ≠ v → ∀ p, FRel .mul (X i k) (Y k j) p → Zero p) (h1 : ∀ p, FRel .mul (X i v) (Y v j) p → Like s m e p) :
    ∀ k, k ≤ n → ∀ r, Acc X Y i j k r → (k ≤ v → Zero r) ∧ (v < k → Like s m e r) := by
  intro k
  induction k with
  | zero => intro _ r h; exact ⟨fun _ => by rw [show r = 0 from h]; exact zero_zero, fun q => absurd q (Nat.not_lt_zero _)⟩
  | succ k ih =>
    intro hk r h
    obtain ⟨r0, p, g1, g2, g3⟩ := h
    obtain ⟨i1, i2⟩ := ih (by omega) r0 g1
    refine ⟨fun q => zero_add_zero (i1 (by omega)) (h0 k (by omega) (by omega) p g2) g3, fun q => ?_⟩
    by_cases ev : k = v
    · subst ev
      have z := i1 (Nat.le_refl _)
      rcases h1 p g2 with ⟨hm, hp⟩ | ⟨hm, hp⟩
      · exact .inl ⟨hm, zero_add_zero z hp g3⟩
      · rcases zero_add z hp g3 with ⟨hm', _⟩ | ⟨_, hr⟩
        · exact absurd hm' hm
        · exact .inr ⟨hm, hr⟩
    · have hp := h0 k (by omega) ev p g2
      rcases i2 (by omega) with ⟨hm, hz⟩ | ⟨hm, hr⟩
      · exact .inl ⟨hm, zero_add_zero hz hp g3⟩
      · exact .inr ⟨hm, add_zero hr hm hp g3⟩

theorem like_same {s : Bool} {m : Nat} {i : Int} {r x : Nat} (h : Like s m i r) (hx : Ieee.double.read x = .number s m i) : SameF r x := by
  refine .inl ?_
  rcases h with ⟨rfl, t, hr⟩ | ⟨_, hr⟩
  · unfold Ieee.Format.order
    rw [hr, hx]
    simp only [Ieee.Datum.order, signed_zero]
    rfl
  · have := order_self (x := x) (by rintro ⟨s', t', h'⟩; rw [h'] at hx; cases hx)
    unfold Ieee.Format.order at this ⊢
    rw [hr, ← hx]
    exact this

theorem id_right {X : Nat → Nat → Nat} {I : Nat → Nat → Nat} {n i j r : Nat} (hI : ∀ a b, a < n → b < n → I a b = idm a b) (hX : ∀ a b, a < n → b < n → Fin64 (X a b)) (hi : i < n) (hj : j < n) (h : Acc X I i j n r) : SameF r (X i j) := by
  obtain ⟨s, m, e, hx⟩ := hX i j hi hj
  refine like_same ((acc_pivot (v := j) (s := s) (m := m) (e := e) (fun k hk hv p hp => ?_) (fun p hp => ?_) n (Nat.le_refl _) r h).2 hj) hx
  · obtain ⟨s', m', e', hx'⟩ := hX i k hi hk
    rw [hI k j hk hj, idm, if_neg (fun q => hv q.symm)] at hp
    exact mul_zero hx' zero_zero hp
  · rw [hI j j hj hj, idm, if_pos rfl] at hp
    exact mul_one hx read_one hp

theorem id_left {X : Nat → Nat → Nat} {I : Nat → Nat → Nat} {n i j r : Nat} (hI : ∀ a b, a < n → b < n → I a b = idm a b) (hX : ∀ a b, a < n → b < n → Fin64 (X a b)) (hi : i < n) (hj : j < n) (h : Acc I X i j n r) : SameF r (X i j) := by
  obtain ⟨s, m, e, hx⟩ := hX i j hi hj
  refine like_same ((acc_pivot (v := i) (s := s) (m := m) (e := e) (fun k hk hv p hp => ?_) (fun p hp => ?_) n (Nat.le_refl _) r h).2 hi) hx
  · obtain ⟨s', m', e', hx'⟩ := hX k j hk hj
    rw [hI i k hi hk, idm, if_neg hv] at hp
    exact zero_mul hx' zero_zero hp
  · rw [hI i i hi hi, idm, if_pos rfl] at hp
    exact one_mul hx read_one hp

theorem below_drew {B : Nat} {a w : World} (h : Below B a w) (q : Nat) : Below B a (w.drewN q) := ⟨h.os, h.tape, h.output, h.size, h.block⟩

set_option maxHeartbeats 4000000 in
set_option maxRecDepth 100000 in
theorem lawI (a : Option Addr) (n ca : Nat) (L : Nat → Nat) (X : Nat → Nat → Nat) (w : World) (ha : Rows2 w a n L X) :
    Calls Try.prog 5 #[.slice a n ca] w (LawEnd w) := by
  have HA := hid ha
  clear ha
  go_enter Try.func5, Try.ntmps5
  go_wp2_with fail
  go_at_call 17
  refine (bytesF1 a n ca L w HA.out.rws).mono ?_
  rintro e w' ⟨⟨v, rfl⟩, rfl⟩
  cases v with
  | false =>
    go_wp2
    go_ret
    exact ⟨rfl, Below.refl _ _⟩
  | true =>
    go_wp2_with fail
    go_at_call 12
    refine (sizeMatF a n ca L _ HA.out.rws).mono ?_
    rintro e w' ⟨⟨v, rfl, hv0, hv1⟩, rfl⟩
    by_cases hs : v > 1048576
    · go_wp2
      go_ret
      exact ⟨rfl, Below.refl _ _⟩
    · go_wp2_with fail
      go_at_call 13
      refine (squareF a a n n ca ca L L _ HA.out.len HA.out.len HA.out.rws HA.out.rws).mono ?_
      rintro e w' ⟨⟨q, rfl, hq⟩, rfl⟩
      clear hs hv0 hv1
      cases q with
      | false =>
        clear hq
        go_wp2
        go_ret
        exact ⟨rfl, Below.refl _ _⟩
      | true =>
        obtain ⟨hn, ⟨-, hL⟩, -⟩ := hq.1 rfl
        clear hq
        have MA := hid (HA.out.mat hL)
        clear HA hL
        go_wp2_with fail
        go_at_call 18
        refine (allfin_walk a n ca X _ hn MA.out).mono ?_
        rintro e w1 ⟨⟨f, rfl, hf⟩, q1, rfl⟩
        have B1 := hid (below_drew (Below.refl w'.heap.size w') q1)
        cases f with
        | false =>
          clear hf
          go_wp2
          go_ret
          exact ⟨rfl, B1.out⟩
        | true =>
          have HF := hid (hf rfl)
          clear hf
          have M1 := hid (MA.out.below B1.out)
          obtain ⟨w1, hw1⟩ : ∃ w1, w'.drewN q1 = w1 := ⟨_, rfl⟩
          rw [hw1] at B1 M1
          clear MA
          go_wp2_with fail
          clear hw1
          go_at_call 19
          refine (ident_walk n w1 hn).mono ?_
          rintro e w2 ⟨rfl, I, hO2, hI⟩
          have HI := hid hI
          have B2 := hid (B1.out.trans (hO2.bel.mono B1.out.size))
          have MI := hid hO2.mat
          have M2 := hid (M1.out.below hO2.bel)
          clear hO2 hI
          go_wp2_with fail
          go_at_call 9
          refine (zzmul_walk _ _ n ca n X I _ hn M2.out MI.out).mono ?_
          rintro e w3 ⟨rfl, Z, hO3, hZ⟩
          have HZ := hid hZ
          have B3 := hid (B2.out.trans (hO3.bel.mono B2.out.size))
          have MI3 := hid (MI.out.below hO3.bel)
          have M3 := hid (M2.out.below hO3.bel)
          have MZ := hid hO3.mat
          clear hO3 hZ
          go_wp2_with fail
          go_at_call 9
          refine (zzmul_walk _ _ n n ca I X _ hn MI3.out M3.out).mono ?_
          rintro e w4 ⟨rfl, Q, hO4, hQ⟩
          have HQ := hid hQ
          have B4 := hid (B3.out.trans (hO4.bel.mono B3.out.size))
          have M4 := hid (M3.out.below hO4.bel)
          have MZ4 := hid (MZ.out.below hO4.bel)
          have MQ := hid hO4.mat
          clear hO4 hQ
          go_wp2_with fail
          go_at_call 20
          refine (samemat_walk _ _ n n ca Z X _ hn MZ4.out M4.out (fun i j hi hj => id_right HI.out HF.out hi hj (HZ.out i j hi hj))).mono ?_
          rintro e w5 ⟨rfl, q5, rfl⟩
          have B5 := hid (below_drew B4.out q5)
          have M5 := hid (M4.out.below (below_drew (Below.refl _ _) q5))
          have MQ5 := hid (MQ.out.below (below_drew (Below.refl _ _) q5))
          obtain ⟨w5, hw5⟩ : ∃ w5, w4.drewN q5 = w5 := ⟨_, rfl⟩
          rw [hw5] at B5 M5 MQ5
          go_wp2_with fail
          clear hw5
          go_at_call 20
          refine (samemat_walk _ _ n n ca Q X _ hn MQ5.out M5.out (fun i j hi hj => id_left HI.out HF.out hi hj (HQ.out i j hi hj))).mono ?_
          rintro e w6 ⟨rfl, q6, rfl⟩
          have B6 := hid (below_drew B5.out q6)
          go_wp2
          go_ret
          exact ⟨rfl, B6.out⟩
end Go.Proofs.Qxb6606026a
