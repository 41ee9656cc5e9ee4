import Derived.Test.Qxb6605555aDoorNum
import Derived.Test.Qxb6605555aDoorTrim
import Derived.Test.Qxb6605555aDoorParR
import Derived.WalkKit
import Derived.Below
import Derived.Deep.CutRange
import Derived.Deep.CutBlock
import Derived.Deep.LoopGhost
import Derived.Outline
namespace Go.Proofs.Qxb6605555aDoor
open Go.RowKit

theorem Tryd.info40 : (Tryd.prog.info? 40).map (fun i => (i.zero, i.size, i.bytes)) = some (some (.int .u64 0), 1, 8) := by kernel_rfl

set_option maxRecDepth 100000 in
set_option maxHeartbeats 4000000 in
theorem parse_yes (b off n c s m : Nat) (z : Nat → Int) (w : World) (hn : n ≤ 1048577) (hnc : n ≤ c) (hc63 : c ≤ 9223372036854775807) (hb : b < w.heap.size)
    (hc : ∀ j, j < n → w.cell? ⟨b, off + j, none⟩ = some (.int .u8 (z j))) (hI : IsInt z n s m) :
    Calls Tryd.prog 18 #[.slice (some ⟨b, off, none⟩) n c] w (ParEnd z s m w) := by
  have hn0 : 0 < n := by have := hI.sn; have := hI.m0; omega
  have HC : Hid (∀ j, j < n → w.cell? ⟨b, off + j, none⟩ = some (.int .u8 (z j))) := hc
  have HI : Hid (IsInt z n s m) := hI
  have hb0 : ((n : Int) == 0) = false := beq_eq_false_iff_ne.2 (by omega)
  clear hc hI
  go_enter Tryd.func18, Tryd.ntmps18
  go_wp2_with fail
  refine (number_any b off n c z (w.alloc (.cells #[.bool false, .slice none 0 0] 37)) hn hn0 (by simp; omega) (fun j hj => (((Below.refl w.heap.size w).alloc (Nat.le_refl _) _).cell (p := ⟨b, off + j, none⟩) hb).trans (HC.out j hj))).mono ?_
  rintro e w2 ⟨rfl, rfl⟩
  rw [HI.out.numB]
  have h0 := HC.out 0 hn0
  rw [Nat.add_zero] at h0
  go_upto_if 25 with (fail)
  go_cut [4] from 12 (fun t wr => ∃ cd : Nat, t = .slice (some ⟨b, off + s, none⟩) m cd ∧ m ≤ cd ∧ cd ≤ 9223372036854775807 ∧ wr = (w.alloc (.cells #[.bool false, .slice none 0 0] 37)).alloc (.cells #[.slice (some ⟨b, off, none⟩) n c] 22))
  case first =>
    rcases HI.out.sgn with ⟨hs, h45⟩ | ⟨hs, h45⟩
    · subst hs
      have hsn := HI.out.sn
      have hm0 := HI.out.m0
      have hbb : (z 0 == 45) = true := beq_iff_eq.2 h45
      have h1n : 2 ≤ n := by omega
      have hc1 : ¬ c = 1 := by omega
      have HN : Hid (n - 1 = m) := by show _ = _; omega
      clear h45 hsn
      go_wp2
      go_meet
      case rel => exact ⟨c - 1, by rw [HN.out], by have := HN.out; omega, by omega, rfl⟩
    · have hbb : (z 0 == 45) = false := beq_eq_false_iff_ne.2 h45
      have hsn := HI.out.sn
      have HN : Hid (n = m) := by show _ = _; omega
      clear h45 hsn
      go_wp2
      go_meet
      case rel => exact ⟨c, by rw [HN.out, hs, Nat.add_zero], by rw [← HN.out]; exact hnc, hc63, rfl⟩
  case rest =>
    obtain ⟨cd, rfl, hmcd, hcd, rfl⟩ := hcut
    clear h0
    have HCs : Hid (∀ k, k < m → w.cell? ⟨b, off + s + k, none⟩ = some (.int .u8 (z (s + k)))) := fun k hk => by
      have := HC.out (s + k) (by have := HI.out.sn; omega)
      rwa [← Nat.add_assoc] at this
    have hmn : m ≤ n := by have := HI.out.sn; omega
    go_wp2
    go_loop [30] (fun t => ∃ k : Nat, t = .int .i64 k ∧ k ≤ m) (fun t => m - (intOf t).toNat)
    case atStart => exact ⟨0, rfl, Nat.zero_le _⟩
    case round =>
      obtain ⟨k, rfl, hk⟩ := hrel
      by_cases hlt : k < m
      · have hck := HCs.out k hlt
        have hlo := HI.out.lo k hlt
        have hhi := HI.out.hi k hlt
        go_wp2
        go_round
        case rel => exact ⟨k + 1, by go_num, by omega⟩
        case measure => simp [intOf]; omega
      · go_wp2
        go_loopg [8] (limbN m) (fun gk e wr => ∃ (k : Nat) (a : Option Addr) (cp : Nat), gk + k = limbN m ∧ e = .int .i64 ((m : Int) - 18 * (k : Int)) ∧ ParRel z s m w k (.slice a k cp) wr)
        case atStart => exact ⟨0, none, 0, by omega, by simp, par_start z s m w _⟩
        case round =>
          obtain ⟨k, a, cp, hgk, rfl, hR⟩ := hrel
          have hkm : gk + k = (m + 17) / 18 := hgk
          by_cases hlt : 18 * k < m
          · obtain ⟨h, hh⟩ : ∃ h : Nat, (m : Int) - 18 * (k : Int) = (h : Int) := ⟨m - 18 * k, by omega⟩
            rw [hh]
            have h1 : 1 ≤ h := by omega
            have h2 : h ≤ m := by omega
            have HH : Hid (h = m - 18 * k) := by show _ = _; omega
            have hcb : wr.cell? ⟨w.heap.size + 1 + 1, 1, none⟩ = some (.slice a k cp) := by simp [World.cell?, hR.box]
            have HR : Hid (ParRel z s m w k (.slice a k cp) wr) := hR
            clear hR hh hgk hlt
            go_upto_region 17 with (fail)
            go_cut [53, 54, 55] from 48 to 71 (fun t l i wq => ∃ cq : Nat, t = .slice (some ⟨b, off + s + (h - 18), none⟩) (h - (h - 18)) cq ∧ l = .int .i64 ((h - (h - 18) : Nat) : Int) ∧ i = .int .i64 0 ∧ wr = wq)
            case first =>
              by_cases h18 : 18 ≤ h
              · obtain ⟨q, rfl⟩ : ∃ q, h = q + 18 := ⟨h - 18, by omega⟩
                go_wp2
                go_meet
                case rel => exact ⟨cd - q, by rw [show q + 18 - 18 = q by omega], by rw [show q + 18 - (q + 18 - 18) = 18 by omega]; rfl, rfl, rfl⟩
              · go_wp2
                go_meet
                case rel => exact ⟨cd, by rw [show h - 18 = 0 by omega]; rfl, by rw [show h - (h - 18) = h by omega], rfl, rfl⟩
            case rest =>
              obtain ⟨cq, rfl, rfl, rfl, rfl⟩ := hcut
              obtain ⟨lo, hlo⟩ : ∃ lo, h - 18 = lo := ⟨_, rfl⟩
              obtain ⟨ln, hln⟩ : ∃ ln, h - lo = ln := ⟨_, rfl⟩
              rw [hlo, hln]
              have hl1 : ln ≤ 18 := by omega
              have hl2 : lo + ln ≤ m := by omega
              have HL : Hid (limbAt z s m k = valI z (s + lo) ln) := by show _ = _; unfold limbAt; rw [← HH.out, hlo, hln]
              clear hlo hln
              go_wp2
              go_loop [55, 9] (fun i v => ∃ (j : Nat), i = .int .i64 j ∧ j ≤ ln ∧ v = .int .u64 (valI z (s + lo) j)) (fun i _ => ln - (intOf i).toNat)
              case atStart => exact ⟨0, rfl, Nat.zero_le _, rfl⟩
              case round =>
                obtain ⟨j, rfl, hj, rfl⟩ := hrel
                by_cases hjl : j < ln
                · have hcj : wr.cell? ⟨b, off + s + lo + j, none⟩ = some (.int .u8 (z (s + lo + j))) := by
                    have q := (HR.out.bel.cell (p := ⟨b, off + s + (lo + j), none⟩) hb).trans (HCs.out (lo + j) (by omega))
                    rwa [← Nat.add_assoc, ← Nat.add_assoc] at q
                  have q1 := HI.out.lo (lo + j) (by omega)
                  have q2 := HI.out.hi (lo + j) (by omega)
                  rw [← Nat.add_assoc] at q1 q2
                  have q3 := valI_small z (s + lo) (j + 1) (by omega) (fun i hi => by have := HI.out.lo (lo + i) (by omega); rwa [← Nat.add_assoc] at this) (fun i hi => by have := HI.out.hi (lo + i) (by omega); rwa [← Nat.add_assoc] at this)
                  have q4 := valI_lo z (s + lo) j (fun i hi => by have := HI.out.lo (lo + i) (by omega); rwa [← Nat.add_assoc] at this)
                  have e4 : valI z (s + lo) (j + 1) = valI z (s + lo) j * 10 + (z (s + lo + j) - 48) := rfl
                  rw [e4] at q3
                  have HE : Hid (valI z (s + lo) (j + 1) = valI z (s + lo) j * 10 + (z (s + lo + j) - 48)) := e4
                  clear e4 HL
                  generalize valI z (s + lo) j = V at *
                  generalize z (s + lo + j) = zc at *
                  go_wp2
                  go_round
                  case rel => exact ⟨j + 1, by go_num, by omega, by rw [HE.out]⟩
                  case measure => simp [intOf]; omega
                · have ej : j = ln := by omega
                  subst ej
                  rw [← HL.out]
                  obtain ⟨i0, hi, hz0, hz1, hz2⟩ := info_parts Tryd.info40
                  go_wp2_with (at_builtin; refine wpList_append_own _ rfl _ _ 25 rfl (w.heap.size + 3) 40 i0 (.int .u64 0) 1 8 Tryd.underlying25 hi hz0 hz1 hz2 rfl (by decide) _ _ _ rfl (HR.out.own.alloc _) ⟨wr.heap.size, 0, none⟩ 1 1 [.int .u64 (limbAt z s m k)] rfl rfl ?c1 ?c2 ?c3 ?c4 ?c5 ?_)
                  case c2 => rfl
                  case c3 => unfold maxLen; omega
                  case c4 => omega
                  case c5 => have := HR.out.size; omega
                  intro v' w1 hown' hgrow _
                  obtain ⟨hA1, hA2⟩ := HR.out.after hgrow
                  have R : Hid (ParRel z s m w (k + 1) v' (w1.setCell ⟨w.heap.size + 1 + 1, 1, none⟩ v')) := HR.out.step hown' hgrow
                  obtain ⟨g', cp', hv, _⟩ := own_pos hown' (by omega)
                  rw [hv] at R ⊢
                  clear hown' hgrow HL HR hv hcb
                  go_wp2
                  go_roundg (gk - 1)
                  case measure => have := HH.out; omega
                  case rel => exact ⟨k + 1, _, _, by have := HH.out; show _ = (m + 17) / 18; omega, by have := HH.out; go_num, R.out⟩
          · have hk2 : k = limbN m := by unfold limbN; omega
            have hend : (m : Int) - 18 * (k : Int) ≤ 0 := by omega
            have HK : Hid (k = limbN m) := hk2
            have hk1 : 1 ≤ k := by have := HI.out.m0; unfold limbN at hk2; omega
            obtain ⟨g, cap', hv, hg1, hg2, hg3, hg4, hg5⟩ := own_pos hR.own hk1
            have HR : Hid (ParRel z s m w k (.slice (some ⟨g, 0, none⟩) k cap') wr) := by rw [← hv]; exact hR
            have hcb : wr.cell? ⟨w.heap.size + 1 + 1, 1, none⟩ = some (.slice (some ⟨g, 0, none⟩) k cap') := by simp [World.cell?, HR.out.box]
            have HG : Hid (∀ j, j < k → wr.cell? ⟨g, j, none⟩ = some (.int .u64 (limbAt z s m j))) := fun j hj => hg5 j _ (by simp [limbs_get z s m k j hj])
            clear hg5 hv hR hk2 hgk
            go_wp2_with fail
            refine (trim_any g k cap' (limbAt z s m) wr hg3 (by unfold maxLen at hg4; omega) HG.out).mono ?_
            rintro e w3 ⟨L, rfl, hL1, hL2, hL3, hw3⟩
            obtain rfl := hw3.symm
            have HL : Hid (L = if z s = 48 then 0 else limbN m) := by
              show _ = _
              have hm0 := HI.out.m0
              by_cases h48 : z s = 48
              · rw [if_pos h48]
                have hm1 := HI.out.nought h48
                have hk1' : k = 1 := by rw [HK.out, hm1]; rfl
                rcases Nat.eq_zero_or_pos L with h | h
                · exact h
                · have h1 : L = 1 := by omega
                  exact absurd (by rw [h1, hm1]; simp [limbAt, valI, h48]) (hL3 h)
              · rw [if_neg h48]
                have h49 : 49 ≤ z s := by have := HI.out.lo 0 hm0; rw [Nat.add_zero] at this; omega
                have ht := limbAt_top z s m hm0 h49 HI.out.lo
                rw [← HK.out] at ht ⊢
                rcases Nat.lt_or_eq_of_le hL1 with h | h
                · have := hL2 (k - 1) (by omega) (by omega); omega
                · exact h
            have hg6 : L ≤ k := hL1
            clear hL1 hL2 hL3
            have hb0 : wr.cell? ⟨w.heap.size + 1 + 1, 0, none⟩ = some (.bool false) := by simp [World.cell?, HR.out.box]
            have hf0 : wr.frozen? ⟨w.heap.size + 1 + 1, 0, none⟩ = false := by simp [World.frozen?, HR.out.box]
            have hf1 : wr.frozen? ⟨w.heap.size + 1 + 1, 1, none⟩ = false := by simp [World.frozen?, HR.out.box]
            have hr0 : wr.cell? ⟨w.heap.size, 0, none⟩ = some (.bool false) := by simp [World.cell?, HR.out.res]
            have hr1 : wr.cell? ⟨w.heap.size, 1, none⟩ = some (.slice none 0 0) := by simp [World.cell?, HR.out.res]
            have hrf0 : wr.frozen? ⟨w.heap.size, 0, none⟩ = false := by simp [World.frozen?, HR.out.res]
            have hrf1 : wr.frozen? ⟨w.heap.size, 1, none⟩ = false := by simp [World.frozen?, HR.out.res]
            have ht0 : wr.cell? ⟨b, off, none⟩ = some (.int .u8 (z 0)) := by
              have q := (HR.out.bel.cell (p := ⟨b, off + 0, none⟩) hb).trans (HC.out 0 hn0)
              rwa [Nat.add_zero] at q
            have hbne : ¬ w.heap.size + 1 + 1 = b := by omega
            have hbne' : ¬ w.heap.size = b := by omega
            rcases HI.out.sgn with ⟨hs, h45⟩ | ⟨hs, h45⟩
            · have hbb : (z 0 == 45) = true := beq_iff_eq.2 h45
              have HS : Hid (s = 1) := hs
              clear h45 hs hw3
              by_cases h0 : L = 0
              · subst h0
                go_wp2
                exact bodyPost_ret (v := .tuple #[.agg #[.bool false, .slice (some ⟨g, 0, none⟩) 0 cap'], .bool true]) (by simp [results, Tryd.results18, go_sem, hr0, hr1]) rfl
                  (par_fin HR.out hg1 hg2 hg3 hg6 HG.out HL.out false (by simp) _ _ _ _)
              · have hL0 : 0 < L := by omega
                clear h0
                go_wp2
                exact bodyPost_ret (v := .tuple #[.agg #[.bool true, .slice (some ⟨g, 0, none⟩) L cap'], .bool true]) (by simp [results, Tryd.results18, go_sem, hr0, hr1]) rfl
                  (par_fin HR.out hg1 hg2 hg3 hg6 HG.out HL.out true (by simp [HS.out, hL0]) _ _ _ _)
            · have hbb : (z 0 == 45) = false := beq_eq_false_iff_ne.2 h45
              have HS : Hid (s = 0) := hs
              clear h45 hs hw3
              go_wp2
              exact bodyPost_ret (v := .tuple #[.agg #[.bool false, .slice (some ⟨g, 0, none⟩) L cap'], .bool true]) (by simp [results, Tryd.results18, go_sem, hr0, hr1]) rfl
                (par_fin HR.out hg1 hg2 hg3 hg6 HG.out HL.out false (by simp [HS.out]) _ _ _ _)
end Go.Proofs.Qxb6605555aDoor
