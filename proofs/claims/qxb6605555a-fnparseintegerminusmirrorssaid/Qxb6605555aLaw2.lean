import Derived.Test.Qxb6605555aZz
import Derived.Test.Qxb6605555aIsJ
import Derived.Test.Qxb6605555aEq
import Derived.Test.Qxb6605555aClone
import Derived.WalkKit
import Derived.Below
namespace Go.Proofs.Qxb6605555a
open Go.RowKit

/-- The text behind a minus. -/
def minusZ (z : Nat → Int) (k j : Nat) : Int := if j = 0 then 45 else if j ≤ k then z (j - 1) else 0

theorem made0 (m : Nat) : (madeCells #[Value.int .u8 0] (m + 1))[0]? = some (.int .u8 0) := by simp [madeCells]

theorem minus_start (w : World) (z : Nat → Int) (m : Nat) : (w.alloc (.cells ((madeCells #[Value.int .u8 0] (m + 1)).setIfInBounds 0 (.int .u8 45)) 5)).rowIs w.heap.size 5 (m + 1) (fun j => .int .u8 (minusZ z 0 j)) := by
  have h := World.rowIs_alloc w ((madeCells #[Value.int .u8 0] (m + 1)).setIfInBounds 0 (.int .u8 45)) 5 (fun j => .int .u8 (minusZ z 0 j)) (fun i hi => by
    rw [Array.size_setIfInBounds, size_madeCells] at hi
    rw [Array.getElem?_setIfInBounds]
    by_cases e : i = 0
    · subst e; simp [minusZ, size_madeCells]
    · rw [if_neg (fun q => e q.symm)]
      simp [madeCells, hi, Nat.mod_one, minusZ, e])
  rw [Array.size_setIfInBounds, size_madeCells] at h
  exact h

theorem minus_int {z : Nat → Int} {m : Nat} (h : IsInt z m 0 m) : IsInt (minusZ z m) (m + 1) 1 m := by
  have e : ∀ i, i < m → minusZ z m (1 + i) = z i := fun i hi => by
    unfold minusZ
    rw [if_neg (by omega), if_pos (by omega), show 1 + i - 1 = i by omega]
  refine ⟨by omega, h.m0, .inl ⟨rfl, rfl⟩, fun i hi => ?_, fun i hi => ?_, fun q => ?_⟩
  · rw [e i hi]; have := h.lo i hi; rwa [Nat.zero_add] at this
  · rw [e i hi]; have := h.hi i hi; rwa [Nat.zero_add] at this
  · have := e 0 h.m0; rw [Nat.add_zero] at this; rw [this] at q; exact h.nought q

theorem minus_one (z : Nat → Int) (m : Nat) (h : 0 < m) : minusZ z m 1 = z 0 := by
  unfold minusZ
  rw [if_neg (by omega), if_pos (by omega)]

theorem minus_limb (z : Nat → Int) (m k : Nat) : limbAt (minusZ z m) 1 m k = limbAt z 0 m k :=
  limbAt_shift z (minusZ z m) m k (fun i hi => by
    unfold minusZ
    rw [if_neg (by omega), if_pos (by omega), show i + 1 - 1 = i by omega])

/-- The law's end. -/
def LawEnd (w : World) (e : Ending) (w' : World) : Prop := e = .returned (.bool true) ∧ Below w.heap.size w w'

set_option maxHeartbeats 1000000 in
/-- Too long or empty: true at once. -/
theorem law2_short (a : Option Addr) (n c : Nat) (w : World) (h63 : n ≤ 9223372036854775807) (h : n = 0 ∨ 1048576 < n) :
    Calls Try.prog 4 #[.slice a n c] w (LawEnd w) := by
  rcases h with h | h
  · subst h
    go_enter Try.func4, Try.ntmps4
    go_wp2
    go_ret
    exact ⟨rfl, Below.refl _ _⟩
  · go_enter Try.func4, Try.ntmps4
    go_wp2
    go_ret
    exact ⟨rfl, Below.refl _ _⟩

set_option maxRecDepth 100000 in
set_option maxHeartbeats 1000000 in
theorem law2_minus (b off n c : Nat) (z : Nat → Int) (w : World) (hn : n ≤ 1048576) (hn0 : 0 < n)
    (hc : ∀ j, j < n → w.cell? ⟨b, off + j, none⟩ = some (.int .u8 (z j))) (h45 : z 0 = 45) :
    Calls Try.prog 4 #[.slice (some ⟨b, off, none⟩) n c] w (LawEnd w) := by
  have h0 := hc 0 hn0
  rw [Nat.add_zero] at h0
  have hb0 : ((n : Int) == 0) = false := beq_eq_false_iff_ne.2 (by omega)
  have hbb : (z 0 == 45) = true := beq_iff_eq.2 h45
  clear h45 hc
  go_enter Try.func4, Try.ntmps4
  go_wp2
  go_ret
  exact ⟨rfl, Below.refl _ _⟩

set_option maxRecDepth 100000 in
set_option maxHeartbeats 4000000 in
theorem law2_go (b off n c : Nat) (z : Nat → Int) (w : World) (hn : n ≤ 1048576) (hn0 : 0 < n)
    (hc : ∀ j, j < n → w.cell? ⟨b, off + j, none⟩ = some (.int .u8 (z j))) (h45 : ¬ z 0 = 45) :
    Calls Try.prog 4 #[.slice (some ⟨b, off, none⟩) n c] w (LawEnd w) := by
  have hb : b < w.heap.size := World.block_lt_of_cell? w ⟨b, off + 0, none⟩ (hc 0 hn0)
  have h0 := hc 0 hn0
  rw [Nat.add_zero] at h0
  have HC : Hid (∀ j, j < n → w.cell? ⟨b, off + j, none⟩ = some (.int .u8 (z j))) := hc
  have H45 : Hid (¬ z 0 = 45) := h45
  have hb0 : ((n : Int) == 0) = false := beq_eq_false_iff_ne.2 (by omega)
  have hb45 : (z 0 == 45) = false := beq_eq_false_iff_ne.2 h45
  clear hc h45
  go_enter Try.func4, Try.ntmps4
  go_wp2_with (first | (go_at_call 9; go_in))
  refine (isj_any b off n c z _ (by omega) hn0 HC.out).mono ?_
  rintro e w1 ⟨B, rfl, hB, hw⟩
  obtain rfl := hw.symm
  cases B with
  | false =>
    clear hB
    go_wp2
    go_ret
    exact ⟨rfl, Below.refl _ _⟩
  | true =>
    obtain ⟨s, m, hI⟩ := hB.1 rfl
    have hs0 : s = 0 := by have := hI.sgn; have := H45.out; omega
    subst hs0
    have hm : m = n := by have := hI.sn; omega
    subst hm
    have HI : Hid (IsInt z m 0 m) := hI
    clear hI hB hw
    go_wp2_with fail
    refine (clone_any b off m c z _ (by omega) (fun _ => hb) HC.out).mono ?_
    rintro e w1 ⟨rfl, hrow, hbel, hsz⟩
    have HR : Hid (w1.rowIs w.heap.size 5 m (fun j => .int .u8 (z j))) := hrow
    have HB : Hid (Below w.heap.size w w1) := hbel
    have hlt1 : w.heap.size < w1.heap.size := by omega
    have HS : Hid (w1.heap.size = w.heap.size + 1) := hsz
    clear hrow hbel hsz
    have hmk := run_make_row' (P := Try.prog) 22 5 (.int .u8 0) 1 Try.underlying22 Try.info5 rfl .i64 .i64 (m + 1) (by omega) (by omega)
    rw [show ((m + 1 : Nat) : Int) = (m : Int) + 1 by omega] at hmk
    have hm0 := made0 m
    have HW : Hid ((w1.alloc (.cells ((madeCells #[Value.int .u8 0] (m + 1)).setIfInBounds 0 (.int .u8 45)) 5)).rowIs w1.heap.size 5 (m + 1) (fun j => .int .u8 (minusZ z 0 j))) := minus_start w1 z m
    go_wp2
    go_loopw [4] (fun t wr => ∃ k : Nat, t = .int .i64 k ∧ k ≤ m ∧ wr.rowIs w.heap.size 5 m (fun j => .int .u8 (z j)) ∧ wr.rowIs w1.heap.size 5 (m + 1) (fun j => .int .u8 (minusZ z k j)) ∧ Below w.heap.size w wr) (fun t _ => m - (intOf t).toNat)
    case atStart => exact ⟨0, rfl, Nat.zero_le _, HR.out.alloc _, HW.out, HB.out.alloc (by omega) _⟩
    case round =>
      obtain ⟨k, rfl, hk, hr1, hr2, hbel⟩ := hrel
      clear hmk hm0
      by_cases hlt : k < m
      · have hck : wr.cell? ⟨w.heap.size, k, none⟩ = some (.int .u8 (z k)) := hr1.cell hlt
        have hcm : wr.cell? ⟨w1.heap.size, k + 1, none⟩ = some (.int .u8 (minusZ z k (k + 1))) := hr2.cell (by omega)
        have hfm : wr.frozen? ⟨w1.heap.size, k + 1, none⟩ = false := hr2.frozen _
        have R1 : Hid ((wr.setCell ⟨w1.heap.size, k + 1, none⟩ (.int .u8 (z k))).rowIs w1.heap.size 5 (m + 1) (fun j => .int .u8 (minusZ z (k + 1) j))) :=
          (hr2.set (k + 1) (.int .u8 (z k))).congr (fun j hj => by
            show (if j = k + 1 then Value.int .u8 (z k) else .int .u8 (minusZ z k j)) = .int .u8 (minusZ z (k + 1) j)
            by_cases e : j = k + 1
            · subst e; rw [if_pos rfl]; unfold minusZ; rw [if_neg (by omega), if_pos (by omega), Nat.add_sub_cancel]
            · rw [if_neg e]; unfold minusZ
              by_cases e0 : j = 0
              · simp [e0]
              · rw [if_neg e0, if_neg e0]
                by_cases e1 : j ≤ k
                · rw [if_pos e1, if_pos (by omega)]
                · rw [if_neg e1, if_neg (by omega)])
        have R2 : Hid ((wr.setCell ⟨w1.heap.size, k + 1, none⟩ (.int .u8 (z k))).rowIs w.heap.size 5 m (fun j => .int .u8 (z j))) := hr1.setOther (by simp; omega) _
        have R3 : Hid (Below w.heap.size w (wr.setCell ⟨w1.heap.size, k + 1, none⟩ (.int .u8 (z k)))) := hbel.setCell (by simp; omega) _
        clear hr1 hr2 hbel
        generalize minusZ z k (k + 1) = old at *
        go_wp2
        go_roundw
        case rel => exact ⟨k + 1, by go_num, by omega, R2.out, R1.out, R3.out⟩
        case measure => simp [intOf]; omega
      · have ek : k = m := by omega
        subst ek
        have HR1 : Hid (wr.rowIs w.heap.size 5 k (fun j => .int .u8 (z j))) := hr1
        have HR2 : Hid (wr.rowIs w1.heap.size 5 (k + 1) (fun j => .int .u8 (minusZ z k j))) := hr2
        have HB2 : Hid (Below w.heap.size w wr) := hbel
        clear hr1 hr2 hbel hlt
        go_wp2_with fail
        refine (zz_yes w.heap.size 0 k k 0 k z wr (by omega) (Nat.le_refl _) (by omega) HR1.out.lt (fun j hj => by rw [Nat.zero_add]; exact HR1.out.cell hj) HI.out).mono ?_
        rintro e w3 ⟨g, L, cap, rfl, hL, hLc, hg1, hg2, hcell, hbel3⟩
        have HL : Hid (L = if z 0 = 48 then 0 else limbN k) := hL
        have HG : Hid (∀ j, j < L → w3.cell? ⟨g, j, none⟩ = some (.int .u64 (limbAt z 0 k j))) := hcell
        have HB3 : Hid (Below wr.heap.size wr w3) := hbel3
        clear hL hcell hbel3
        go_wp2_with fail
        have HR3 : Hid (w3.rowIs w1.heap.size 5 (k + 1) (fun j => .int .u8 (minusZ z k j))) := HR2.out.of_block (HB3.out.block _ HR2.out.lt)
        refine (zz_yes w1.heap.size 0 (k + 1) (k + 1) 1 k (minusZ z k) w3 (by omega) (Nat.le_refl _) (by omega) HR3.out.lt (fun j hj => by rw [Nat.zero_add]; exact HR3.out.cell hj) (minus_int HI.out)).mono ?_
        rintro e w4 ⟨g', L', cap', rfl, hL', hLc', hg1', hg2', hcell', hbel4⟩
        have eL : L' = L := by rw [hL', HL.out, minus_one z k hn0]
        subst eL
        have HG1 : Hid (∀ j, j < L' → w4.cell? ⟨g, 0 + j, none⟩ = some (.int .u64 (limbAt z 0 k j))) := fun j hj => by rw [Nat.zero_add]; exact (hbel4.cell (p := ⟨g, j, none⟩) hg2).trans (HG.out j hj)
        have HG2 : Hid (∀ j, j < L' → w4.cell? ⟨g', 0 + j, none⟩ = some (.int .u64 (limbAt z 0 k j))) := fun j hj => by rw [Nat.zero_add, ← minus_limb z k j]; exact hcell' j hj
        have hd0 : w4.cell? ⟨w.heap.size, 0, none⟩ = some (.int .u8 (z 0)) :=
          (hbel4.cell (p := ⟨w.heap.size, 0, none⟩) (by have := HB3.out.size; have := HR1.out.lt; show w.heap.size < _; omega)).trans
            ((HB3.out.cell (p := ⟨w.heap.size, 0, none⟩) HR1.out.lt).trans (HR1.out.cell hn0))
        have HB4 : Hid (Below w.heap.size w w4) := (HB2.out.trans (HB3.out.mono (Nat.le_of_lt HR1.out.lt))).trans (hbel4.mono (by have := HB3.out.size; have := HR1.out.lt; omega))
        clear hL' hcell' hbel4 HG HB3 HR3 HR2 HR1 HB2
        have hLn : L' ≤ k := by rw [HL.out]; split <;> (try unfold limbN) <;> omega
        by_cases h48 : z 0 = 48
        · have hk1 := HI.out.nought h48
          have hL0 : L' = 0 := by rw [HL.out, if_pos h48]
          subst hk1 hL0
          have hb48 : (z 0 == 48) = true := beq_iff_eq.2 h48
          clear h48
          go_wp2
          go_ret
          exact ⟨rfl, HB4.out⟩
        · have hLN : L' = (k + 17) / 18 := by rw [HL.out, if_neg h48]; rfl
          have hL0 : 0 < L' := by omega
          have hb48 : (z 0 == 48) = false := beq_eq_false_iff_ne.2 h48
          have hne : ((L' : Int) != ((k : Int) + 17) / 18) = false := by simp; omega
          clear h48 hLN HL
          go_wp2_with fail
          all_goals
            refine (eq_yes (some ⟨g, 0, none⟩) (some ⟨g', 0, none⟩) L' cap cap' (limbAt z 0 _) w4 (by omega) (fun _ => ⟨g, 0, rfl, HG1.out⟩) (fun _ => ⟨g', 0, rfl, HG2.out⟩)).mono ?_
            rintro e w5 ⟨rfl, q, rfl⟩
            go_wp2
            go_ret
            exact ⟨rfl, below_drawn HB4.out q⟩
end Go.Proofs.Qxb6605555a
