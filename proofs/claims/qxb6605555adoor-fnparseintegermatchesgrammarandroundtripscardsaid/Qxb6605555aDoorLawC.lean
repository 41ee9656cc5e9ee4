import Derived.Test.Qxb6605555aDoorForth
import Derived.Test.Qxb6605555aDoorParN
import Derived.Test.Qxb6605555aDoorIsJ
import Derived.WalkKit
import Derived.Below
import Derived.Deep.CutRange
namespace Go.Proofs.Qxb6605555aDoor
open Go.RowKit

set_option maxRecDepth 100000 in
set_option maxHeartbeats 2000000 in
theorem lawC_short (a : Option Addr) (n c : Nat) (w : World) (h1 : n ≤ 9223372036854775807) (h : 1048576 < n) :
    Calls Tryd.prog 3 #[.slice a n c] w (LawEnd w) := by
  go_enter Tryd.func3, Tryd.ntmps3
  go_wp2
  go_ret
  exact ⟨rfl, Below.refl _ _⟩

set_option maxRecDepth 100000 in
set_option maxHeartbeats 4000000 in
/-- The empty text. -/
theorem lawC_zero (a : Option Addr) (c : Nat) (z : Nat → Int) (w : World) (ha : Sl w .u8 a 0 c z) :
    Calls Tryd.prog 3 #[.slice a 0 c] w (LawEnd w) := by
  have HA := Lib.hid ha
  clear ha
  go_enter Tryd.func3, Tryd.ntmps3
  go_wp2_with (first | (go_at_call 6; go_in))
  refine (clone_gen a 0 c z w (by omega) HA.out).mono ?_
  rintro e w1 ⟨⟨sa, sc, rfl, _, _, _⟩, hbel1⟩
  have HB1 := Lib.hid hbel1
  clear hbel1
  go_wp2_with fail
  refine (zz_no sa 0 sc w1 (parse_empty sa sc w1)).mono ?_
  rintro e w2 ⟨rfl, hbel2⟩
  have HB2 : Hid (Below w.heap.size w w2) := HB1.out.trans (hbel2.mono HB1.out.size)
  clear hbel2 HB1
  go_wp2_with fail
  refine (isj_empty sa sc z w2).mono ?_
  rintro e w3 ⟨Bv, rfl, hBv, hw⟩
  obtain rfl := hw.symm
  have hf : Bv = false := by
    cases Bv with
    | false => rfl
    | true => obtain ⟨s, m, q⟩ := hBv.1 rfl; have := q.sn; have := q.m0; omega
  subst hf
  clear hBv hw
  go_wp2
  go_ret
  exact ⟨rfl, HB2.out⟩

set_option maxRecDepth 100000 in
set_option maxHeartbeats 4000000 in
/-- No JSON integer. -/
theorem lawC_no (b off n c : Nat) (z : Nat → Int) (w : World) (hn : n ≤ 1048576) (hn0 : 0 < n) (hc : ∀ j, j < n → w.cell? ⟨b, off + j, none⟩ = some (.int .u8 (z j))) (hI : ¬ ∃ s m, IsInt z n s m) :
    Calls Tryd.prog 3 #[.slice (some ⟨b, off, none⟩) n c] w (LawEnd w) := by
  have hb : b < w.heap.size := World.block_lt_of_cell? w ⟨b, off + 0, none⟩ (hc 0 hn0)
  have HC := Lib.hid hc
  have HI := Lib.hid hI
  have k1 : (n : Int) ≤ 1048576 := by omega
  clear hc hI
  go_enter Tryd.func3, Tryd.ntmps3
  go_wp2_with (first | (go_at_call 6; go_in))
  refine (clone_any b off n c z w (by omega) (fun _ => hb) HC.out).mono ?_
  rintro e w1 ⟨rfl, hrow, hbel1, hsz⟩
  have HR : Hid (∀ j, j < n → w1.cell? ⟨w.heap.size, 0 + j, none⟩ = some (.int .u8 (z j))) := fun j hj => by rw [Nat.zero_add]; exact hrow.cell hj
  have HB1 := Lib.hid hbel1
  have hlt1 : w.heap.size < w1.heap.size := hrow.lt
  clear hrow hbel1 hsz
  go_wp2_with fail
  refine (zz_no _ n n w1 (parse_no w.heap.size 0 n n z w1 (by omega) hn0 (Nat.le_refl _) (by omega) hlt1 HR.out HI.out)).mono ?_
  rintro e w2 ⟨rfl, hbel2⟩
  have HB2 : Hid (Below w.heap.size w w2) := HB1.out.trans (hbel2.mono HB1.out.size)
  have HR2 : Hid (∀ j, j < n → w2.cell? ⟨w.heap.size, 0 + j, none⟩ = some (.int .u8 (z j))) := fun j hj => (hbel2.cell (p := ⟨w.heap.size, 0 + j, none⟩) hlt1).trans (HR.out j hj)
  clear hbel2 HB1 HR
  go_wp2_with fail
  refine (isj_any w.heap.size 0 n n z w2 (by omega) hn0 HR2.out).mono ?_
  rintro e w3 ⟨Bv, rfl, hBv, hw⟩
  obtain rfl := hw.symm
  have hf : Bv = false := by
    cases Bv with
    | false => rfl
    | true => exact absurd (hBv.1 rfl) HI.out
  subst hf
  clear hBv hw
  go_wp2
  go_ret
  exact ⟨rfl, HB2.out⟩

set_option maxRecDepth 100000 in
set_option maxHeartbeats 8000000 in
/-- A JSON integer. -/
theorem lawC_yes (b off n c s m : Nat) (z : Nat → Int) (w : World) (hn : n ≤ 1048576) (hc : ∀ j, j < n → w.cell? ⟨b, off + j, none⟩ = some (.int .u8 (z j))) (hI : IsInt z n s m)
    (htab : Lib.TabIs Tryd.prog w Tryd.powName .u64 Lib.pow10Tab) :
    Calls Tryd.prog 3 #[.slice (some ⟨b, off, none⟩) n c] w (LawEnd w) := by
  have hn0 : 0 < n := by have := hI.sn; have := hI.m0; omega
  have hb : b < w.heap.size := World.block_lt_of_cell? w ⟨b, off + 0, none⟩ (hc 0 hn0)
  have HC := Lib.hid hc
  have HI := Lib.hid hI
  have HT := Lib.hid (Lib.tabBelow_of_tabIs htab)
  have k1 : (n : Int) ≤ 1048576 := by omega
  clear hc hI htab
  go_enter Tryd.func3, Tryd.ntmps3
  go_wp2_with (first | (go_at_call 6; go_in))
  refine (clone_any b off n c z w (by omega) (fun _ => hb) HC.out).mono ?_
  rintro e w1 ⟨rfl, hrow, hbel1, hsz⟩
  have HR : Hid (∀ j, j < n → w1.cell? ⟨w.heap.size, 0 + j, none⟩ = some (.int .u8 (z j))) := fun j hj => by rw [Nat.zero_add]; exact hrow.cell hj
  have HB1 := Lib.hid hbel1
  have hlt1 : w.heap.size < w1.heap.size := hrow.lt
  clear hrow hbel1 hsz
  go_wp2_with fail
  refine (zz_yes w.heap.size 0 n n s m z w1 (by omega) (Nat.le_refl _) (by omega) hlt1 HR.out HI.out).mono ?_
  rintro e w2 ⟨g, L, cap, rfl, hL, hLc, hg1, hg2, hcell, hbel2⟩
  have HB2 : Hid (Below w.heap.size w w2) := HB1.out.trans (hbel2.mono HB1.out.size)
  have HR2 : Hid (∀ j, j < n → w2.cell? ⟨w.heap.size, 0 + j, none⟩ = some (.int .u8 (z j))) := fun j hj => (hbel2.cell (p := ⟨w.heap.size, 0 + j, none⟩) hlt1).trans (HR.out j hj)
  have hlt2 : w.heap.size < w2.heap.size := by have := hbel2.size; omega
  have hfy : ∀ k, k < L → (limbNat z s m k : Int) = limbAt z s m k := fun k _ => by
    have := (limbAt_small z s m k HI.out.lo HI.out.hi).1
    unfold limbNat; omega
  have HG : Hid (∀ k, k < L → w2.cell? ⟨g, 0 + k, none⟩ = some (.int .u64 (limbNat z s m k : Int))) := fun k hk => by rw [Nat.zero_add, hfy k hk]; exact hcell k hk
  have HL : Hid (L = if z s = 48 then 0 else limbN m) := hL
  have HLn : Hid (L ≤ n) := by
    show L ≤ n
    rw [hL]
    have := HI.out.sn
    split
    · omega
    · unfold limbN; omega
  clear hbel2 HB1 HR hL hcell hfy
  go_wp2_with fail
  refine (isj_any w.heap.size 0 n n z w2 (by omega) hn0 HR2.out).mono ?_
  rintro e w3 ⟨Bv, rfl, hBv, hw⟩
  obtain rfl := hw.symm
  have hf : Bv = true := hBv.2 ⟨s, m, HI.out⟩
  subst hf
  clear hBv hw
  go_wp2_with fail
  have hwf : WfL (fun k => (limbNat z s m k : Int)) L := by
    refine ⟨fun k _ => by have := limbNat_small HI.out k; show (limbNat z s m k : Int) < _; omega, fun h0 => ?_⟩
    have h48 : ¬ z s = 48 := fun q => by have := HL.out; rw [if_pos q] at this; omega
    have e := HL.out
    rw [if_neg h48] at e
    have := limbNat_top HI.out h48
    show ¬ (limbNat z s m (L - 1) : Int) = 0
    rw [e]; omega
  refine (wf_any (some ⟨g, 0, none⟩) L cap (fun k => (limbNat z s m k : Int)) w2 (by have := HLn.out; omega) (fun _ => ⟨g, 0, rfl, HG.out⟩)).mono ?_
  rintro e w3 ⟨Bv, rfl, hBv, hw⟩
  obtain rfl := hw.symm
  have hf : Bv = true := hBv.2 hwf
  subst hf
  clear hBv hw hwf
  have hcz : w2.cell? ⟨w.heap.size, 0, none⟩ = some (.int .u8 (z 0)) := HR2.out 0 hn0
  have hb0 : ((n : Int) == 0) = false := beq_eq_false_iff_ne.2 (by omega)
  by_cases h48 : z s = 48
  · have hm1 := HI.out.nought h48
    have hL0 : L = 0 := by have := HL.out; rw [if_pos h48] at this; exact this
    have hsn := HI.out.sn
    rcases HI.out.sgn with ⟨hs, h45⟩ | ⟨hs, h45⟩
    · -- the text is a minus and a nought
      subst hs
      have hn2 : n = 2 := by omega
      subst hn2 hL0
      have hb45 : (z 0 == 45) = true := beq_iff_eq.2 h45
      have hb48 : (z 1 == 48) = true := beq_iff_eq.2 h48
      have hcz1 : w2.cell? ⟨w.heap.size, 1, none⟩ = some (.int .u8 (z 1)) := HR2.out 1 (by omega)
      clear h45 h48 hsn hm1
      go_wp2_with fail
      refine (zzapp 0 0 0 cap none false _ (limbNat z 1 m) [] _ ⟨fun _ => ⟨rfl, rfl⟩, Nat.le_refl _, rfl, (fun b q => by cases q)⟩ (by omega) (by omega) (fun q => by omega) (fun j hj => by omega) (TabUp (HT.out.on (HB2.out.alloc (by omega) _)) (by simp; omega))).mono ?_
      rintro e w4 ⟨⟨ov, rfl, hown⟩, hbel4⟩
      have eT : fullText false (limbNat z 1 m) 0 = [48] := rfl
      rw [eT] at hown
      obtain ⟨g4, cap4, hv, _, _, _, _, hg45⟩ := own_pos hown (by simp)
      rw [hv]
      have HO : Hid (∀ j, j < 1 → w4.cell? ⟨g4, 0 + j, none⟩ = some (.int .u8 ((fun _ => (48 : Int)) j))) := fun j hj => by
        have : j = 0 := by omega
        subst this; exact hg45 0 _ rfl
      have HW : Hid (∀ j, j < 1 → w4.cell? ⟨w2.heap.size, 0 + j, none⟩ = some (.int .u8 ((fun _ => (48 : Int)) j))) := fun j hj => by
        have : j = 0 := by omega
        subst this
        exact (hbel4.cell (p := ⟨w2.heap.size, 0 + 0, none⟩) (by simp)).trans (by simp)
      have HB4 : Hid (Below w.heap.size w w4) := (HB2.out.alloc (by omega) _).trans (hbel4.mono (by simp; omega))
      clear hv hown hg45 hbel4 hcz1
      go_wp2_with fail
      refine (beq_yes (some ⟨g4, 0, none⟩) (some ⟨w2.heap.size, 0, none⟩) 1 cap4 1 (fun _ => 48) w4 (by omega) (fun _ => ⟨g4, 0, rfl, HO.out⟩) (fun _ => ⟨w2.heap.size, 0, rfl, HW.out⟩)).mono ?_
      rintro e w5 ⟨rfl, q, rfl⟩
      go_wp2
      go_ret
      exact ⟨rfl, below_drawn HB4.out q⟩
    · -- the text is a nought
      subst hs
      have hn1 : n = 1 := by omega
      subst hn1 hL0
      have hb45 : (z 0 == 45) = false := beq_eq_false_iff_ne.2 h45
      have H48 := Lib.hid h48
      clear h45 h48 hsn hm1
      go_wp2_with fail
      refine (zzapp 0 0 0 cap none false _ (limbNat z 0 m) [] _ ⟨fun _ => ⟨rfl, rfl⟩, Nat.le_refl _, rfl, (fun b q => by cases q)⟩ (by omega) (by omega) (fun q => by omega) (fun j hj => by omega) (TabUp (HT.out.on HB2.out) HB2.out.size)).mono ?_
      rintro e w4 ⟨⟨ov, rfl, hown⟩, hbel4⟩
      have eT : fullText false (limbNat z 0 m) 0 = [48] := rfl
      rw [eT] at hown
      obtain ⟨g4, cap4, hv, _, _, _, _, hg45⟩ := own_pos hown (by simp)
      rw [hv]
      have HO : Hid (∀ j, j < 1 → w4.cell? ⟨g4, 0 + j, none⟩ = some (.int .u8 ((fun _ => (48 : Int)) j))) := fun j hj => by
        have : j = 0 := by omega
        subst this; exact hg45 0 _ rfl
      have HW : Hid (∀ j, j < 1 → w4.cell? ⟨w.heap.size, 0 + j, none⟩ = some (.int .u8 ((fun _ => (48 : Int)) j))) := fun j hj => by
        have : j = 0 := by omega
        subst this
        have h := (hbel4.cell (p := ⟨w.heap.size, 0 + 0, none⟩) hlt2).trans (HR2.out 0 (by omega))
        rw [H48.out] at h
        exact h
      have HB4 : Hid (Below w.heap.size w w4) := HB2.out.trans (hbel4.mono HB2.out.size)
      clear hv hown hg45 hbel4
      go_wp2_with fail
      refine (beq_yes (some ⟨g4, 0, none⟩) (some ⟨w.heap.size, 0, none⟩) 1 cap4 1 (fun _ => 48) w4 (by omega) (fun _ => ⟨g4, 0, rfl, HO.out⟩) (fun _ => ⟨w.heap.size, 0, rfl, HW.out⟩)).mono ?_
      rintro e w5 ⟨rfl, q, rfl⟩
      go_wp2
      go_ret
      exact ⟨rfl, below_drawn HB4.out q⟩
  · have hLe : L = limbN m := by have := HL.out; rw [if_neg h48] at this; exact this
    have hLp : 0 < L := by rw [hLe]; exact limbN_pos HI.out
    have H48 := Lib.hid h48
    have HLe := Lib.hid hLe
    have hsg : (decide (s = 1) && decide (0 < L)) = decide (s = 1) := by simp [hLp]
    rw [hsg]
    clear hsg hLe
    rcases HI.out.sgn with ⟨hs, h45⟩ | ⟨hs, h45⟩
    · subst hs
      have hb45 : (z 0 == 45) = true := beq_iff_eq.2 h45
      clear h45
      by_cases hn2 : n = 2
      · subst hn2
        have hcz1 : w2.cell? ⟨w.heap.size, 1, none⟩ = some (.int .u8 (z 1)) := HR2.out 1 (by omega)
        have hb48 : (z 1 == 48) = false := beq_eq_false_iff_ne.2 h48
        clear h48
        go_wp2_with fail
        refine (zzapp 0 0 L cap none true (some ⟨g, 0, none⟩) (limbNat z 1 m) [] w2 ⟨fun _ => ⟨rfl, rfl⟩, Nat.le_refl _, rfl, (fun b q => by cases q)⟩ (by have := HLn.out; omega) (by have := HLn.out; omega) (fun _ => ⟨g, 0, rfl, hg2, HG.out⟩) (fun j _ => limbNat_small HI.out j) (TabUp (HT.out.on HB2.out) HB2.out.size)).mono ?_
        rintro e w4 ⟨⟨ov, rfl, hown⟩, hbel4⟩
        have hfl : (fullText true (limbNat z 1 m) L).length = 2 := by rw [HLe.out]; exact full_len HI.out H48.out
        have hfn : ∀ j, j < 2 → numAt (Lib.byteCells (fullText true (limbNat z 1 m) L)) j = z j := fun j hj => by rw [HLe.out]; exact full_num HI.out H48.out j hj
        rw [Nat.zero_add, List.nil_append] at hown
        obtain ⟨g4, cap4, hv, _, _, _, _, hg45⟩ := own_pos hown (by omega)
        rw [hv]
        have hU := AllU8.bytes (fullText true (limbNat z 1 m) L)
        have hlenT : (Lib.byteCells (fullText true (limbNat z 1 m) L)).length = (fullText true (limbNat z 1 m) L).length := Lib.byteCells_length _
        have HO : Hid (∀ j, j < 2 → w4.cell? ⟨g4, 0 + j, none⟩ = some (.int .u8 (z j))) := fun j hj => by
          rw [Nat.zero_add, ← hfn j hj]; exact hg45 j _ (numAt_cell hU (by omega))
        have HW : Hid (∀ j, j < 2 → w4.cell? ⟨w.heap.size, 0 + j, none⟩ = some (.int .u8 (z j))) := fun j hj => (hbel4.cell (p := ⟨w.heap.size, 0 + j, none⟩) hlt2).trans (HR2.out j hj)
        have HB4 : Hid (Below w.heap.size w w4) := HB2.out.trans (hbel4.mono HB2.out.size)
        rw [hfl]
        clear hv hown hg45 hbel4 hU hlenT hfl hfn
        go_wp2_with fail
        refine (beq_yes (some ⟨g4, 0, none⟩) (some ⟨w.heap.size, 0, none⟩) 2 cap4 2 z w4 (by omega) (fun _ => ⟨g4, 0, rfl, HO.out⟩) (fun _ => ⟨w.heap.size, 0, rfl, HW.out⟩)).mono ?_
        rintro e w5 ⟨rfl, q, rfl⟩
        go_wp2
        go_ret
        exact ⟨rfl, below_drawn HB4.out q⟩
      · have hbn : ((n : Int) == 2) = false := beq_eq_false_iff_ne.2 (by omega)
        clear h48 hn2
        go_wp2_with fail
        refine (zzapp 0 0 L cap none true (some ⟨g, 0, none⟩) (limbNat z 1 m) [] w2 ⟨fun _ => ⟨rfl, rfl⟩, Nat.le_refl _, rfl, (fun b q => by cases q)⟩ (by have := HLn.out; omega) (by have := HLn.out; omega) (fun _ => ⟨g, 0, rfl, hg2, HG.out⟩) (fun j _ => limbNat_small HI.out j) (TabUp (HT.out.on HB2.out) HB2.out.size)).mono ?_
        rintro e w4 ⟨⟨ov, rfl, hown⟩, hbel4⟩
        have hfl : (fullText true (limbNat z 1 m) L).length = n := by rw [HLe.out]; exact full_len HI.out H48.out
        have hfn : ∀ j, j < n → numAt (Lib.byteCells (fullText true (limbNat z 1 m) L)) j = z j := fun j hj => by rw [HLe.out]; exact full_num HI.out H48.out j hj
        rw [Nat.zero_add, List.nil_append] at hown
        obtain ⟨g4, cap4, hv, _, _, _, _, hg45⟩ := own_pos hown (by omega)
        rw [hv]
        have hU := AllU8.bytes (fullText true (limbNat z 1 m) L)
        have hlenT : (Lib.byteCells (fullText true (limbNat z 1 m) L)).length = (fullText true (limbNat z 1 m) L).length := Lib.byteCells_length _
        have HO : Hid (∀ j, j < n → w4.cell? ⟨g4, 0 + j, none⟩ = some (.int .u8 (z j))) := fun j hj => by
          rw [Nat.zero_add, ← hfn j hj]; exact hg45 j _ (numAt_cell hU (by omega))
        have HW : Hid (∀ j, j < n → w4.cell? ⟨w.heap.size, 0 + j, none⟩ = some (.int .u8 (z j))) := fun j hj => (hbel4.cell (p := ⟨w.heap.size, 0 + j, none⟩) hlt2).trans (HR2.out j hj)
        have HB4 : Hid (Below w.heap.size w w4) := HB2.out.trans (hbel4.mono HB2.out.size)
        rw [hfl]
        clear hv hown hg45 hbel4 hU hlenT hfl hfn
        go_wp2_with fail
        refine (beq_yes (some ⟨g4, 0, none⟩) (some ⟨w.heap.size, 0, none⟩) n cap4 n z w4 (by omega) (fun _ => ⟨g4, 0, rfl, HO.out⟩) (fun _ => ⟨w.heap.size, 0, rfl, HW.out⟩)).mono ?_
        rintro e w5 ⟨rfl, q, rfl⟩
        go_wp2
        go_ret
        exact ⟨rfl, below_drawn HB4.out q⟩
    · subst hs
      have hb45 : (z 0 == 45) = false := beq_eq_false_iff_ne.2 h45
      clear h45 h48
      by_cases hn2 : n = 2
      · subst hn2
        go_wp2_with fail
        refine (zzapp 0 0 L cap none false (some ⟨g, 0, none⟩) (limbNat z 0 m) [] w2 ⟨fun _ => ⟨rfl, rfl⟩, Nat.le_refl _, rfl, (fun b q => by cases q)⟩ (by have := HLn.out; omega) (by have := HLn.out; omega) (fun _ => ⟨g, 0, rfl, hg2, HG.out⟩) (fun j _ => limbNat_small HI.out j) (TabUp (HT.out.on HB2.out) HB2.out.size)).mono ?_
        rintro e w4 ⟨⟨ov, rfl, hown⟩, hbel4⟩
        have hfl : (fullText false (limbNat z 0 m) L).length = 2 := by rw [HLe.out]; exact full_len HI.out H48.out
        have hfn : ∀ j, j < 2 → numAt (Lib.byteCells (fullText false (limbNat z 0 m) L)) j = z j := fun j hj => by rw [HLe.out]; exact full_num HI.out H48.out j hj
        rw [Nat.zero_add, List.nil_append] at hown
        obtain ⟨g4, cap4, hv, _, _, _, _, hg45⟩ := own_pos hown (by omega)
        rw [hv]
        have hU := AllU8.bytes (fullText false (limbNat z 0 m) L)
        have hlenT : (Lib.byteCells (fullText false (limbNat z 0 m) L)).length = (fullText false (limbNat z 0 m) L).length := Lib.byteCells_length _
        have HO : Hid (∀ j, j < 2 → w4.cell? ⟨g4, 0 + j, none⟩ = some (.int .u8 (z j))) := fun j hj => by
          rw [Nat.zero_add, ← hfn j hj]; exact hg45 j _ (numAt_cell hU (by omega))
        have HW : Hid (∀ j, j < 2 → w4.cell? ⟨w.heap.size, 0 + j, none⟩ = some (.int .u8 (z j))) := fun j hj => (hbel4.cell (p := ⟨w.heap.size, 0 + j, none⟩) hlt2).trans (HR2.out j hj)
        have HB4 : Hid (Below w.heap.size w w4) := HB2.out.trans (hbel4.mono HB2.out.size)
        rw [hfl]
        clear hv hown hg45 hbel4 hU hlenT hfl hfn
        go_wp2_with fail
        refine (beq_yes (some ⟨g4, 0, none⟩) (some ⟨w.heap.size, 0, none⟩) 2 cap4 2 z w4 (by omega) (fun _ => ⟨g4, 0, rfl, HO.out⟩) (fun _ => ⟨w.heap.size, 0, rfl, HW.out⟩)).mono ?_
        rintro e w5 ⟨rfl, q, rfl⟩
        go_wp2
        go_ret
        exact ⟨rfl, below_drawn HB4.out q⟩
      · have hbn : ((n : Int) == 2) = false := beq_eq_false_iff_ne.2 (by omega)
        clear hn2
        go_wp2_with fail
        refine (zzapp 0 0 L cap none false (some ⟨g, 0, none⟩) (limbNat z 0 m) [] w2 ⟨fun _ => ⟨rfl, rfl⟩, Nat.le_refl _, rfl, (fun b q => by cases q)⟩ (by have := HLn.out; omega) (by have := HLn.out; omega) (fun _ => ⟨g, 0, rfl, hg2, HG.out⟩) (fun j _ => limbNat_small HI.out j) (TabUp (HT.out.on HB2.out) HB2.out.size)).mono ?_
        rintro e w4 ⟨⟨ov, rfl, hown⟩, hbel4⟩
        have hfl : (fullText false (limbNat z 0 m) L).length = n := by rw [HLe.out]; exact full_len HI.out H48.out
        have hfn : ∀ j, j < n → numAt (Lib.byteCells (fullText false (limbNat z 0 m) L)) j = z j := fun j hj => by rw [HLe.out]; exact full_num HI.out H48.out j hj
        rw [Nat.zero_add, List.nil_append] at hown
        obtain ⟨g4, cap4, hv, _, _, _, _, hg45⟩ := own_pos hown (by omega)
        rw [hv]
        have hU := AllU8.bytes (fullText false (limbNat z 0 m) L)
        have hlenT : (Lib.byteCells (fullText false (limbNat z 0 m) L)).length = (fullText false (limbNat z 0 m) L).length := Lib.byteCells_length _
        have HO : Hid (∀ j, j < n → w4.cell? ⟨g4, 0 + j, none⟩ = some (.int .u8 (z j))) := fun j hj => by
          rw [Nat.zero_add, ← hfn j hj]; exact hg45 j _ (numAt_cell hU (by omega))
        have HW : Hid (∀ j, j < n → w4.cell? ⟨w.heap.size, 0 + j, none⟩ = some (.int .u8 (z j))) := fun j hj => (hbel4.cell (p := ⟨w.heap.size, 0 + j, none⟩) hlt2).trans (HR2.out j hj)
        have HB4 : Hid (Below w.heap.size w w4) := HB2.out.trans (hbel4.mono HB2.out.size)
        rw [hfl]
        clear hv hown hg45 hbel4 hU hlenT hfl hfn
        go_wp2_with fail
        refine (beq_yes (some ⟨g4, 0, none⟩) (some ⟨w.heap.size, 0, none⟩) n cap4 n z w4 (by omega) (fun _ => ⟨g4, 0, rfl, HO.out⟩) (fun _ => ⟨w.heap.size, 0, rfl, HW.out⟩)).mono ?_
        rintro e w5 ⟨rfl, q, rfl⟩
        go_wp2
        go_ret
        exact ⟨rfl, below_drawn HB4.out q⟩
end Go.Proofs.Qxb6605555aDoor
