import Derived.Test.Qxb6606026aToF
import Derived.Test.Qxb6606026aSqI
import Derived.BigQuiet
import Derived.Deep.QuietTactic
namespace Go.Proofs.Qxb6606026a
open Go.RowKit

/-- A slice of rows of int16s that came in. -/
structure RowsI (w : World) (a : Option Addr) (n : Nat) (L : Nat → Nat) (A : Nat → Nat → Int) : Prop where
  len : (n : Int) ≤ 9223372036854775807
  rws : Rws w a n L
  mat : (∀ i, i < n → L i = n) → IMat w a n A

structure LawEndN (w : World) (e : Ending) (w' : World) : Prop where
  res : e = .returned (.bool true)
  bel : Below w.heap.size w w'

set_option maxHeartbeats 4000000 in
set_option maxRecDepth 100000 in
theorem lawN (a b : Option Addr) (n m ca cb : Nat) (L M : Nat → Nat) (A B : Nat → Nat → Int) (w : World) (ha : RowsI w a n L A) (hb : RowsI w b m M B) :
    Calls Try.prog 3 #[.slice a n ca, .slice b m cb] w (LawEndN w) := by
  have HA := hid ha
  have HB := hid hb
  clear ha hb
  go_enter Try.func3, Try.ntmps3
  go_wp2_with fail
  go_at_call 6
  refine (bytesI a b n m ca cb L M w HA.out.rws HB.out.rws).mono ?_
  rintro e w' ⟨⟨v, rfl⟩, rfl⟩
  cases v with
  | false =>
    go_wp2
    go_ret
    exact ⟨rfl, Below.refl _ _⟩
  | true =>
    go_wp2_with fail
    go_at_call 7
    refine (sizeMatI a n ca L _ HA.out.rws).mono ?_
    rintro e w' ⟨⟨v, rfl, hv0, hv1⟩, rfl⟩
    go_wp2_with fail
    go_at_call 7
    refine (sizeMatI b m cb M _ HB.out.rws).mono ?_
    rintro e w' ⟨⟨u, rfl, hu0, hu1⟩, rfl⟩
    by_cases hs : v + u > 1048576
    · go_wp2
      go_ret
      exact ⟨rfl, Below.refl _ _⟩
    · go_wp2_with fail
      go_at_call 8
      refine (squareI a b n m ca cb L M _ HA.out.len HB.out.len HA.out.rws HB.out.rws).mono ?_
      rintro e w' ⟨⟨q, rfl, hq⟩, rfl⟩
      clear hs hv0 hv1 hu0 hu1
      cases q with
      | false =>
        clear hq
        go_wp2
        go_ret
        exact ⟨rfl, Below.refl _ _⟩
      | true =>
        obtain ⟨hn, ⟨-, hL⟩, ⟨hmn, hM⟩⟩ := hq.1 rfl
        clear hq
        subst hmn
        have MA := hid (HA.out.mat hL)
        have MB := hid (HB.out.mat hM)
        clear HA HB hL hM
        go_wp2_with fail
        go_at_call 10
        refine (tof_walk a m ca A _ hn MA.out).mono ?_
        rintro e w1 ⟨rfl, X, hO1, hX⟩
        have HX := hid hX
        have HO1 := hid hO1
        have B1 := hid hO1.bel
        have MB1 := hid (MB.out.below hO1.bel)
        clear hO1 hX
        go_wp2_with fail
        go_at_call 10
        refine (tof_walk b m cb B _ hn MB1.out).mono ?_
        rintro e w2 ⟨rfl, Y, hO2, hY⟩
        have HY := hid hY
        have HO2 := hid hO2
        have B2 := hid (B1.out.trans (hO2.bel.mono B1.out.size))
        clear hO2 hY
        go_wp2_with fail
        go_at_call 9
        refine (zzmul_walk _ _ m m m X Y _ hn (HO1.out.mat.below HO2.out.bel) HO2.out.mat).mono ?_
        rintro e w3 ⟨rfl, Z, hO3, hZ⟩
        have HR : Hid (∀ i j, i < m → j < m → Ieee.double.order (Z i j) (floatOfInt .f64 (psum A B i j m)) = some .eq) := fun i j hi hj => by
          have h1 := psum_small MA.out.fit MB.out.fit hi hj m (Nat.le_refl _)
          have e53 : (2 : Nat) ^ 53 = 9007199254740992 := by decide
          exact rep_order (acc_int hn MA.out.fit MB.out.fit HX.out HY.out hi hj m (Nat.le_refl _) _ (hZ i j hi hj)) (rep_of _ (by omega))
        have B3 := hid (B2.out.trans (hO3.bel.mono B2.out.size))
        have MP := hid hO3.mat
        have MA3 := hid (MA.out.below B3.out)
        have MB3 := hid (MB.out.below B3.out)
        clear hO3 hZ HX HY HO1 HO2 B1 B2 MA MB MB1
        have hne : ((m : Int) != (m : Int)) = false := by simp
        go_wp2
        go_loopg [7] m (fun g t wr => ∃ (i : Nat), t = .int .i64 i ∧ i ≤ m ∧ g = m - i ∧ Hid (∃ q, wr = w3.drewN q))
        case atStart => exact ⟨0, rfl, Nat.zero_le _, rfl, ⟨0, rfl⟩⟩
        case round =>
          obtain ⟨i, rfl, hi, rfl, HW⟩ := hrel
          by_cases him : i < m
          · have hiz : (i : Int) < (m : Int) := by omega
            obtain ⟨pg, po, PG, PO, PC, pe, p1, p2⟩ := MP.out.ex (by omega)
            cases pe
            have HP2 := hid p2
            have HP1 := hid (p1 i him)
            rw [Nat.zero_add] at HP1
            clear p1 p2
            have c1 : wr.cell? ⟨w2.heap.size, i, none⟩ = some (.slice (some ⟨PG i, PO i, none⟩) m (PC i)) := by
              obtain ⟨q, rfl⟩ := HW.out
              exact HP1.out
            go_wp2
            clear c1
            go_loopg [8] m (fun g t wr => ∃ (j : Nat), t = .int .i64 j ∧ j ≤ m ∧ g = m - j ∧ Hid (∃ q, wr = w3.drewN q))
            case atStart => exact ⟨0, rfl, Nat.zero_le _, rfl, HW⟩
            case round =>
              clear HW
              obtain ⟨j, rfl, hj, rfl, HW⟩ := hrel
              by_cases hjm : j < m
              · have hjz : (j : Int) < (m : Int) := by omega
                have HS := hid (psum_small MA3.out.fit MB3.out.fit him hjm)
                go_wp2
                go_loopg [9, 10] m (fun g s t wr => ∃ (k : Nat), s = .int .i64 (psum A B i j k) ∧ t = .int .i64 k ∧ k ≤ m ∧ g = m - k ∧ Hid (∃ q, wr = w3.drewN q))
                case atStart => exact ⟨0, rfl, rfl, Nat.zero_le _, rfl, HW⟩
                case round =>
                  clear HW
                  obtain ⟨k, rfl, rfl, hk, rfl, HW⟩ := hrel
                  by_cases hkm : k < m
                  · have hkz : (k : Int) < (m : Int) := by omega
                    obtain ⟨ga, oa, AG, AO, AC, rfl, a1, a2⟩ := MA3.out.ex (by omega)
                    obtain ⟨gb, ob, BG, BO, BC, rfl, b1, b2⟩ := MB3.out.ex (by omega)
                    have c1 : wr.cell? ⟨ga, oa + i, none⟩ = some (.slice (some ⟨AG i, AO i, none⟩) m (AC i)) := by
                      obtain ⟨q, rfl⟩ := HW.out
                      exact a1 i him
                    have c2 : wr.cell? ⟨AG i, AO i + k, none⟩ = some (.int .i16 (A i k)) := by
                      obtain ⟨q, rfl⟩ := HW.out
                      exact a2 i k him hkm
                    have c3 : wr.cell? ⟨gb, ob + k, none⟩ = some (.slice (some ⟨BG k, BO k, none⟩) m (BC k)) := by
                      obtain ⟨q, rfl⟩ := HW.out
                      exact b1 k hkm
                    have c4 : wr.cell? ⟨BG k, BO k + j, none⟩ = some (.int .i16 (B k j)) := by
                      obtain ⟨q, rfl⟩ := HW.out
                      exact b2 k j hkm hjm
                    clear a1 a2 b1 b2
                    obtain ⟨fa1, fa2⟩ := MA3.out.fit i k him hkm
                    obtain ⟨fb1, fb2⟩ := MB3.out.fit k j hkm hjm
                    have s0 := HS.out k (by omega)
                    have s1 := mul_small (MA3.out.fit i k him hkm) (MB3.out.fit k j hkm hjm)
                    have s2 : -1073741824 ≤ A i k * B k j := by omega
                    have s3 : A i k * B k j ≤ 1073741824 := by omega
                    have s4 : -274877906944 ≤ psum A B i j k := by omega
                    have s5 : psum A B i j k ≤ 274877906944 := by omega
                    have HN : Hid (psum A B i j (k + 1) = psum A B i j k + A i k * B k j) := rfl
                    clear s0 s1
                    go_wp2_with fail
                    go_quiet (fail)
                    go_wp2
                    have HW' : Hid (∃ q, wr.drewN nq = w3.drewN q) := by
                      obtain ⟨q', h⟩ := HW.out
                      exact ⟨q' + nq, by rw [h, World.drewN_drewN]⟩
                    go_roundg (m - (k + 1))
                    case measure => go_light; omega
                    case rel => go_light; exact ⟨k + 1, by rw [HN.out], by go_num, by omega, rfl, HW'.out⟩
                  · obtain rfl : k = m := by omega
                    have hkz : ¬ (k : Int) < (k : Int) := by omega
                    have c1 : wr.cell? ⟨w2.heap.size, i, none⟩ = some (.slice (some ⟨PG i, PO i, none⟩) k (PC i)) := by
                      obtain ⟨q, rfl⟩ := HW.out
                      exact HP1.out
                    have c2 : wr.cell? ⟨PG i, PO i + j, none⟩ = some (.float .f64 (Z i j)) := by
                      obtain ⟨q, rfl⟩ := HW.out
                      exact HP2.out i j him hjm
                    have hcv : ∀ w n, (convert 2 31 (.int .i64 n)).run Try.prog w = .ok (.float .f64 (floatOfInt .f64 n)) w := fun w n => run_convert_int_float w 2 31 .i64 .f64 n (by rw [Try.underlying2]; rfl) Try.underlying31
                    have hor : (FloatKind.f64.format.order (Z i j) (floatOfInt .f64 (psum A B i j k)) != some Ordering.eq) = false := by
                      have := HR.out i j him hjm
                      show (Ieee.double.order _ _ != some .eq) = false
                      rw [this]
                      rfl
                    go_wp2
                    go_roundg (k - (j + 1))
                    case measure => go_light; omega
                    case rel => go_light; exact ⟨j + 1, by go_num, by omega, rfl, HW.out⟩
              · have hjz : ¬ (j : Int) < (m : Int) := by omega
                go_wp2
                go_roundg (m - (i + 1))
                case measure => go_light; omega
                case rel => go_light; exact ⟨i + 1, by go_num, by omega, rfl, HW.out⟩
          · have hiz : ¬ (i : Int) < (m : Int) := by omega
            go_wp2
            go_ret
            obtain ⟨q, rfl⟩ := HW.out
            exact ⟨rfl, B3.out.os, B3.out.tape, B3.out.output, B3.out.size, B3.out.block⟩
end Go.Proofs.Qxb6606026a
