import Derived.Test.Qxb6606026aMul
import Derived.Test.Qxb6606026aSq
import Derived.Test.Qxb6606026aTrn
import Derived.Test.Qxb6606026aSame
import Derived.BigQuiet
import Derived.Deep.QuietTactic
namespace Go.Proofs.Qxb6606026a
open Go.RowKit

/-- A slice of rows of floats that came in. -/
structure Rows2 (w : World) (a : Option Addr) (n : Nat) (L : Nat → Nat) (X : Nat → Nat → Nat) : Prop where
  len : (n : Int) ≤ 9223372036854775807
  rws : Rws w a n L
  mat : (∀ i, i < n → L i = n) → Mat w a n X

theorem acc_tr {X Y XT YT : Nat → Nat → Nat} {i j n : Nat} (hX : ∀ a b, a < n → b < n → XT a b = X b a) (hY : ∀ a b, a < n → b < n → YT a b = Y b a) (hi : i < n) (hj : j < n) :
    ∀ k, k ≤ n → ∀ {r r'}, Acc X Y j i k r → Acc YT XT i j k r' → Eqn r' r := by
  intro k
  induction k with
  | zero => intro _ r r' h h'; exact .inl (h'.trans h.symm)
  | succ k ih =>
    intro hk r r' h h'
    obtain ⟨r0, p, h1, h2, h3⟩ := h
    obtain ⟨r0', p', h1', h2', h3'⟩ := h'
    rw [hX k j (by omega) hj, hY i k hi (by omega)] at h2'
    exact add_eqn (ih (by omega) h1 h1') (mul_eqn h2' h2) h3' h3

structure LawEnd (w : World) (e : Ending) (w' : World) : Prop where
  res : e = .returned (.bool true)
  bel : Below w.heap.size w w'

set_option maxHeartbeats 4000000 in
set_option maxRecDepth 100000 in
theorem lawT (a b : Option Addr) (n m ca cb : Nat) (L M : Nat → Nat) (X Y : Nat → Nat → Nat) (w : World) (ha : Rows2 w a n L X) (hb : Rows2 w b m M Y) :
    Calls Try.prog 4 #[.slice a n ca, .slice b m cb] w (LawEnd w) := by
  have HA := hid ha
  have HB := hid hb
  clear ha hb
  go_enter Try.func4, Try.ntmps4
  go_wp2_with fail
  go_at_call 11
  refine (bytesF a b n m ca cb L M w HA.out.rws HB.out.rws).mono ?_
  rintro e w' ⟨⟨v, rfl⟩, rfl⟩
  cases v with
  | false =>
    go_wp2
    go_ret
    exact ⟨rfl, Below.refl _ _⟩
  | true =>
    go_wp2_with fail
    go_at_call 12
    refine (sizeMatF a n ca L _ HA.out.rws).mono ?_
    rintro e w' ⟨⟨v, rfl, hv0, hv1⟩, rfl⟩
    go_wp2_with fail
    go_at_call 12
    refine (sizeMatF b m cb M _ HB.out.rws).mono ?_
    rintro e w' ⟨⟨u, rfl, hu0, hu1⟩, rfl⟩
    by_cases hs : v + u > 1048576
    · go_wp2
      go_ret
      exact ⟨rfl, Below.refl _ _⟩
    · go_wp2_with fail
      go_at_call 13
      refine (squareF a b n m ca cb L M _ HA.out.len HB.out.len HA.out.rws HB.out.rws).mono ?_
      rintro e w' ⟨⟨q, rfl, hq⟩, rfl⟩
      clear hs hv0 hv1 hu0 hu1
      cases q with
      | false =>
        clear hq
        go_wp2
        go_ret
        exact ⟨rfl, Below.refl _ _⟩
      | true =>
        obtain ⟨hn, ⟨-, hL⟩, ⟨hmn, hM⟩⟩ := hq.1 rfl
        clear hq
        subst hmn
        have MA := hid (HA.out.mat hL)
        have MB := hid (HB.out.mat hM)
        clear HA HB hL hM
        go_wp2_with fail
        go_at_call 9
        refine (zzmul_walk a b m ca cb X Y _ hn MA.out MB.out).mono ?_
        rintro e w1 ⟨rfl, Z, hO1, hZ⟩
        have HO1 := hid hO1
        have HZ := hid hZ
        have B1 := hid hO1.bel
        clear hO1 hZ
        go_wp2_with fail
        go_at_call 14
        refine (tr_walk b m cb Y _ hn (MB.out.below B1.out)).mono ?_
        rintro e w2 ⟨rfl, YT, hO2, hY⟩
        have HO2 := hid hO2
        have HY := hid hY
        have B2 := hid (B1.out.trans (hO2.bel.mono B1.out.size))
        clear hO2 hY
        go_wp2_with fail
        go_at_call 14
        refine (tr_walk a m ca X _ hn (MA.out.below B2.out)).mono ?_
        rintro e w3 ⟨rfl, XT, hO3, hX⟩
        have HO3 := hid hO3
        have HX := hid hX
        have B3 := hid (B2.out.trans (hO3.bel.mono B2.out.size))
        clear hO3 hX
        go_wp2_with fail
        go_at_call 9
        refine (zzmul_walk _ _ m m m YT XT _ hn (HO2.out.mat.below HO3.out.bel) HO3.out.mat).mono ?_
        rintro e w4 ⟨rfl, Q, hO4, hQ⟩
        have HO4 := hid hO4
        have HQ := hid hQ
        have B4 := hid (B3.out.trans (hO4.bel.mono B3.out.size))
        have P4 := hid (((HO1.out.mat.below HO2.out.bel).below HO3.out.bel).below hO4.bel)
        have Q4 := hid hO4.mat
        clear hO4 hQ
        have HE : Hid (∀ i j, i < m → j < m → SameF (Q i j) (Z j i)) := fun i j hi hj =>
          (acc_tr (fun a b ha hb => HX.out a b ha hb) (fun a b ha hb => HY.out a b ha hb) hi hj m (Nat.le_refl _) (HZ.out j i hj hi) (HQ.out i j hi hj)).same
        clear HX HY HZ HQ B1 B2 B3 HO1 HO2 HO3 HO4 MA MB
        go_wp2_with fail
        go_at_call 15
        refine (shapeF _ m m m m (fun _ => m) _ (by omega) P4.out.rws).mono ?_
        rintro e w5 ⟨⟨s1, rfl, hs1⟩, rfl⟩
        obtain rfl : s1 = true := hs1.2 ⟨rfl, fun _ _ => rfl⟩
        clear hs1
        go_wp2_with fail
        go_at_call 15
        refine (shapeF _ m m m m (fun _ => m) _ (by omega) Q4.out.rws).mono ?_
        rintro e w5 ⟨⟨s1, rfl, hs1⟩, rfl⟩
        obtain rfl : s1 = true := hs1.2 ⟨rfl, fun _ _ => rfl⟩
        clear hs1
        go_wp2
        go_loopg [8] m (fun g t wr => ∃ (i : Nat), t = .int .i64 i ∧ i ≤ m ∧ g = m - i ∧ ∃ q, wr = w5.drewN q)
        case atStart => exact ⟨0, rfl, Nat.zero_le _, rfl, 0, rfl⟩
        case round =>
          obtain ⟨i, rfl, hi, rfl, q, rfl⟩ := hrel
          by_cases him : i < m
          · have hiz : (i : Int) < (m : Int) := by omega
            go_wp2
            go_loopg [9] m (fun g t wr => ∃ (j : Nat), t = .int .i64 j ∧ j ≤ m ∧ g = m - j ∧ ∃ q, wr = w5.drewN q)
            case atStart => exact ⟨0, rfl, Nat.zero_le _, rfl, q, rfl⟩
            case round =>
              obtain ⟨j, rfl, hj, rfl, q, hwq⟩ := hrel
              have HW := hid hwq
              clear hwq
              by_cases hjm : j < m
              · have hjz : (j : Int) < (m : Int) := by omega
                obtain ⟨pg, po, PG, PO, PC, pe, p1, p2⟩ := P4.out.ex (by omega)
                obtain ⟨qg, qo, QG, QO, QC, qe, q1, q2⟩ := Q4.out.ex (by omega)
                cases pe
                cases qe
                have c1 := q1 i him
                have c2 := q2 i j him hjm
                have c3 := p1 j hjm
                have c4 := p2 j i hjm him
                rw [Nat.zero_add] at c1 c3
                rw [← World.cell?_drewN (n := q), ← HW.out] at c1 c2 c3 c4
                clear p1 p2 q1 q2
                go_wp2_with fail
                go_quiet ((go_at_call 16; exact Calls.quiet_of_same ((same_yes _ _ _ (HE.out i j him hjm)).mono (fun e w' h => ⟨h.res, h.same⟩))))
                go_wp2
                go_roundg (m - (j + 1))
                case measure => go_light; omega
                case rel => go_light; exact ⟨j + 1, by go_num, by omega, rfl, _, by rw [HW.out, World.drewN_drewN]⟩
              · have hjz : ¬ (j : Int) < (m : Int) := by omega
                go_wp2
                go_roundg (m - (i + 1))
                case measure => go_light; omega
                case rel => go_light; exact ⟨i + 1, by go_num, by omega, rfl, q, HW.out⟩
          · have hiz : ¬ (i : Int) < (m : Int) := by omega
            go_wp2
            go_ret
            exact ⟨rfl, B4.out.os, B4.out.tape, B4.out.output, B4.out.size, B4.out.block⟩
end Go.Proofs.Qxb6606026a
