import Derived.Test.Qxb6605555aDoorClone
import Derived.WalkKit
import Derived.Below
import Derived.Deep.OwnRows
import Derived.Deep.LoopGhost
import Derived.Deep.CutRange
namespace Go.Proofs.Qxb6605555aDoor
open Go.RowKit

/-- Digit r, counted from the right, of the limbs f: as a byte. -/
def dgt (f : Nat → Nat) (r : Nat) : Nat := 48 + f (r / 18) / 10 ^ (r % 18) % 10
/-- What the row of N digits holds when r of them, from the right, are written. -/
def decZ (f : Nat → Nat) (N r p : Nat) : Int := if N - 1 - p < r then (dgt f (N - 1 - p) : Int) else 0

theorem decZ_step (f : Nat → Nat) (N r p : Nat) (h : p < N) (hr : r < N) : (if p = N - 1 - r then (dgt f r : Int) else decZ f N r p) = decZ f N (r + 1) p := by
  unfold decZ
  by_cases e : p = N - 1 - r
  · subst e
    rw [if_pos rfl, show N - 1 - (N - 1 - r) = r by omega, if_pos (by omega)]
  · rw [if_neg e]
    by_cases g : N - 1 - p < r
    · rw [if_pos g, if_pos (by omega)]
    · rw [if_neg g, if_neg (by omega)]

theorem dgt_at (f : Nat → Nat) (k d : Nat) (hd : d < 18) : dgt f (18 * k + d) = 48 + f k / 10 ^ d % 10 := by
  unfold dgt
  rw [show (18 * k + d) / 18 = k by omega, show (18 * k + d) % 18 = d by omega]

theorem pow_step (u d : Nat) : u / 10 ^ (d + 1) = u / 10 ^ d / 10 := by rw [Nat.pow_succ, Nat.div_div_eq_div_mul]

/-- How decimalOfLimbs ends where a digit is not nought. -/
def DecEnd (f : Nat → Nat) (N : Nat) (w : World) (e : Ending) (w' : World) : Prop :=
  ∃ ld : Nat, ld < N ∧ e = .returned (.slice (some ⟨w.heap.size, ld, none⟩) (N - ld) (N - ld)) ∧ (∀ p, p < ld → dgt f (N - 1 - p) = 48) ∧ ¬ dgt f (N - 1 - ld) = 48 ∧
    w'.rowIs w.heap.size 5 N (fun p => .int .u8 (dgt f (N - 1 - p) : Int)) ∧ Below w.heap.size w w'

set_option maxRecDepth 100000 in
set_option maxHeartbeats 4000000 in
theorem dec_any (lb lo L c : Nat) (f : Nat → Nat) (w : World) (hL : 0 < L) (hL2 : L ≤ 65536) (hlb : lb < w.heap.size) (hf : ∀ j, j < L → f j < 1000000000000000000)
    (hc : ∀ j, j < L → w.cell? ⟨lb, lo + j, none⟩ = some (.int .u64 (f j))) (hz : ∃ p, p < 18 * L ∧ ¬ dgt f (18 * L - 1 - p) = 48) :
    Calls Tryd.prog 15 #[.slice (some ⟨lb, lo, none⟩) L c] w (DecEnd f (18 * L) w) := by
  have HC := (show Hid (∀ j, j < L → w.cell? ⟨lb, lo + j, none⟩ = some (.int .u64 (f j))) from hc)
  have HF := (show Hid (∀ j, j < L → f j < 1000000000000000000) from hf)
  have HZ := (show Hid (∃ p, p < 18 * L ∧ ¬ dgt f (18 * L - 1 - p) = 48) from hz)
  clear hc hf hz
  have hmk := run_make_row' (P := Tryd.prog) 22 5 (.int .u8 0) 1 Tryd.underlying22 Tryd.info5 rfl .i64 .i64 (18 * L) (by omega) (by omega)
  rw [show ((18 * L : Nat) : Int) = 18 * (L : Int) by omega] at hmk
  go_enter Tryd.func15, Tryd.ntmps15
  go_wp2
  go_loopg [5] L (fun gk t wr => ∃ k : Nat, gk + k = L ∧ t = .int .i64 (k : Int) ∧ wr.rowIs w.heap.size 5 (18 * L) (fun p => .int .u8 (decZ f (18 * L) (18 * k) p)) ∧ Below w.heap.size w wr)
  case atStart => exact ⟨0, by omega, rfl, (World.rowIs_made w (.int .u8 0) (18 * L) 5).congr (fun j hj => by simp [decZ]), (Below.refl _ _).alloc (Nat.le_refl _) _⟩
  case round =>
    clear hmk
    obtain ⟨k, hgk, rfl, hrow, hbel⟩ := hrel
    cases gk with
    | succ g0 =>
      have hck : wr.cell? ⟨lb, lo + k, none⟩ = some (.int .u64 (f k)) := (hbel.cell (p := ⟨lb, lo + k, none⟩) hlb).trans (HC.out k (by omega))
      have HR : Hid (wr.rowIs w.heap.size 5 (18 * L) (fun p => .int .u8 (decZ f (18 * L) (18 * k) p))) := hrow
      have HB : Hid (Below w.heap.size w wr) := hbel
      have hklt : (k : Int) < (L : Int) := by omega
      clear hrow hbel
      go_wp2
      go_loopg [6, 7] 18 (fun gd v t wq => ∃ d : Nat, gd + d = 18 ∧ v = .int .u64 ((f k / 10 ^ d : Nat) : Int) ∧ t = .int .i64 (d : Int) ∧ wq.rowIs w.heap.size 5 (18 * L) (fun p => .int .u8 (decZ f (18 * L) (18 * k + d) p)) ∧ Below w.heap.size w wq)
      case atStart => exact ⟨0, rfl, by simp, rfl, HR.out, HB.out⟩
      case round =>
        clear HR HB hck
        obtain ⟨d, hgd, rfl, rfl, hrow, hbel⟩ := hrel
        cases gk with
        | succ gd =>
          have h1 := HF.out k (by omega)
          have h2 : f k / 10 ^ d ≤ f k := Nat.div_le_self _ _
          have hcell : wr.cell? ⟨w.heap.size, 18 * L - 1 - 18 * k - d, none⟩ = some (.int .u8 (decZ f (18 * L) (18 * k + d) (18 * L - 1 - 18 * k - d))) := hrow.cell (by omega)
          have hfrz : wr.frozen? ⟨w.heap.size, 18 * L - 1 - 18 * k - d, none⟩ = false := hrow.frozen _
          have hd : dgt f (18 * k + d) = 48 + f k / 10 ^ d % 10 := dgt_at f k d (by omega)
          have R1 : Hid ((wr.setCell ⟨w.heap.size, 18 * L - 1 - 18 * k - d, none⟩ (.int .u8 (48 + ((f k / 10 ^ d : Nat) : Int) % 10))).rowIs w.heap.size 5 (18 * L) (fun p => .int .u8 (decZ f (18 * L) (18 * k + (d + 1)) p))) :=
            (hrow.set (18 * L - 1 - 18 * k - d) (.int .u8 (48 + ((f k / 10 ^ d : Nat) : Int) % 10))).congr (fun j hj => by
              have e := decZ_step f (18 * L) (18 * k + d) j hj (by omega)
              rw [hd] at e
              show (if j = 18 * L - 1 - 18 * k - d then _ else _) = Value.int .u8 (decZ f (18 * L) (18 * k + d + 1) j)
              rw [← e, show 18 * L - 1 - (18 * k + d) = 18 * L - 1 - 18 * k - d by omega]
              by_cases g : j = 18 * L - 1 - 18 * k - d
              · rw [if_pos g, if_pos g]
                congr 1
              · rw [if_neg g, if_neg g])
          have R2 : Hid (Below w.heap.size w (wr.setCell ⟨w.heap.size, 18 * L - 1 - 18 * k - d, none⟩ (.int .u8 (48 + ((f k / 10 ^ d : Nat) : Int) % 10)))) := hbel.setCell (Nat.le_refl _) _
          have R3 : Hid (f k / 10 ^ (d + 1) = f k / 10 ^ d / 10) := pow_step _ _
          clear hrow hbel hd
          generalize f k / 10 ^ d = u at *
          generalize decZ f (18 * L) (18 * k + d) (18 * L - 1 - 18 * k - d) = old at *
          have hd18 : (d : Int) < 18 := by omega
          have hix : (0 : Int) ≤ 18 * (L : Int) - 1 - 18 * (k : Int) - (d : Int) := by omega
          go_wp2
          go_roundg gd
          case measure => omega
          case rel => exact ⟨d + 1, by omega, by rw [R3.out]; go_num, by go_num, R1.out, R2.out⟩
        | zero =>
          have hd : d = 18 := by omega
          subst hd
          have R1 : Hid (wr.rowIs w.heap.size 5 (18 * L) (fun p => .int .u8 (decZ f (18 * L) (18 * (k + 1)) p))) := hrow
          have R2 : Hid (Below w.heap.size w wr) := hbel
          clear hrow hbel
          generalize f k / 10 ^ 18 = u at *
          go_wp2
          go_roundg g0
          case measure => omega
          case rel => exact ⟨k + 1, by omega, by go_num, R1.out, R2.out⟩
    | zero =>
      have hk : k = L := by omega
      subst hk
      have HR : Hid (wr.rowIs w.heap.size 5 (18 * k) (fun p => .int .u8 (dgt f (18 * k - 1 - p) : Int))) := hrow.congr (fun p hp => by unfold decZ; rw [if_pos (by omega)])
      have HB : Hid (Below w.heap.size w wr) := hbel
      clear hrow hbel
      go_wp2
      go_loop [8] (fun t => ∃ p : Nat, t = .int .i64 (p : Int) ∧ p < 18 * k ∧ Hid (∀ q, q < p → dgt f (18 * k - 1 - q) = 48)) (fun t => 18 * k - (intOf t).toNat)
      case atStart => exact ⟨0, rfl, by omega, fun q hq => by omega⟩
      case round =>
        obtain ⟨p, rfl, hp, HQ⟩ := hrel
        have hcp : wr.cell? ⟨w.heap.size, p, none⟩ = some (.int .u8 (dgt f (18 * k - 1 - p) : Int)) := HR.out.cell hp
        by_cases h48 : dgt f (18 * k - 1 - p) = 48
        · have hb : ((dgt f (18 * k - 1 - p) : Int) == 48) = true := beq_iff_eq.2 (by omega)
          have hnx : p + 1 < 18 * k := by
            obtain ⟨p', h1, h2⟩ := HZ.out
            rcases Nat.lt_or_ge (p + 1) (18 * k) with g | g
            · exact g
            · exact absurd (by rcases Nat.lt_or_eq_of_le (show p' ≤ p by omega) with e | e
                               · exact HQ.out p' e
                               · rw [e]; exact h48) h2
          have HQ' : Hid (∀ q, q < p + 1 → dgt f (18 * k - 1 - q) = 48) := fun q hq => by
            rcases Nat.lt_or_eq_of_le (show q ≤ p by omega) with e | e
            · exact HQ.out q e
            · rw [e]; exact h48
          clear h48
          generalize dgt f (18 * k - 1 - p) = x at *
          go_wp2
          go_round
          case rel => exact ⟨p + 1, by go_num, hnx, HQ'.out⟩
          case measure => simp [intOf]; omega
        · have hb : ((dgt f (18 * k - 1 - p) : Int) == 48) = false := beq_eq_false_iff_ne.2 (by omega)
          have H48 : Hid (¬ dgt f (18 * k - 1 - p) = 48) := h48
          clear h48
          go_wp2
          go_ret
          exact ⟨p, hp, rfl, HQ.out, H48.out, HR.out, HB.out⟩

set_option maxRecDepth 100000 in
set_option maxHeartbeats 1000000 in
/-- decimalOfLimbs of no limbs. -/
theorem dec_zero (a : Option Addr) (c : Nat) (w : World) :
    Calls Tryd.prog 15 #[.slice a 0 c] w fun e w' => ∃ g, e = .returned (.slice (some ⟨g, 0, none⟩) 1 1) ∧ w'.cell? ⟨g, 0, none⟩ = some (.int .u8 48) ∧ g < w'.heap.size ∧ Below w.heap.size w w' := by
  have hmk := run_make_row' (P := Tryd.prog) 22 5 (.int .u8 0) 1 Tryd.underlying22 Tryd.info5 rfl .i64 .i64 0 (by omega) (by omega)
  rw [show ((0 : Nat) : Int) = 0 by omega] at hmk
  go_enter Tryd.func15, Tryd.ntmps15
  go_wp2
  refine wp_loop_rounds 1 ?_
  rw [rounds_succ]
  go_wp2
  refine wp_loop_rounds 1 ?_
  rw [rounds_succ]
  go_wp2
  go_ret
  exact ⟨w.heap.size + 1, rfl, by simp, by simp, ((Below.refl _ _).alloc (Nat.le_refl _) _).alloc (by simp) _⟩
end Go.Proofs.Qxb6605555aDoor
