import Derived.Test.Qxb6606026aIntP
import Derived.Test.Qxb6606026aLen
import Derived.BigGuard
import Derived.BigQuiet
namespace Go.Proofs.Qxb6606026a
open Go.RowKit

/-- A square matrix of int16s that can be read. -/
structure IMat (w : World) (a : Option Addr) (n : Nat) (A : Nat → Nat → Int) : Prop where
  fit : ∀ i j, i < n → j < n → I16 (A i j)
  ex : 0 < n → ∃ (g o : Nat) (RG RO RC : Nat → Nat), a = some ⟨g, o, none⟩ ∧ (∀ i, i < n → w.cell? ⟨g, o + i, none⟩ = some (.slice (some ⟨RG i, RO i, none⟩) n (RC i))) ∧
    ∀ i j, i < n → j < n → w.cell? ⟨RG i, RO i + j, none⟩ = some (.int .i16 (A i j))

theorem IMat.below {w w' : World} {a : Option Addr} {n : Nat} {A : Nat → Nat → Int} (h : IMat w a n A) (hb : Below w.heap.size w w') : IMat w' a n A :=
  ⟨h.fit, fun hn => by
    obtain ⟨g, o, RG, RO, RC, e, h1, h2⟩ := h.ex hn
    exact ⟨g, o, RG, RO, RC, e, fun i hi => (hb.cell (World.block_lt_of_cell? w _ (h1 i hi))).trans (h1 i hi), fun i j hi hj => (hb.cell (World.block_lt_of_cell? w _ (h2 i j hi hj))).trans (h2 i j hi hj)⟩⟩

/-- Row r, c cells of it. -/
def ToR (A : Nat → Nat → Int) (w wi : World) (n r c : Nat) (Z : Nat → Nat → Nat) : Prop :=
  ∃ zz, Inner w wi n r Z zz ∧ ∀ j, j < c → zz j = floatOfInt .f64 (A r j)

def ToO (A : Nat → Nat → Int) (w wr : World) (n r : Nat) : Prop :=
  ∃ Z, Outer w wr n r Z ∧ ∀ i j, i < r → j < n → Z i j = floatOfInt .f64 (A i j)

structure ToEnd (A : Nat → Nat → Int) (n : Nat) (w : World) (e : Ending) (w' : World) : Prop where
  res : e = .returned (.slice (some ⟨w.heap.size, 0, none⟩) n n)
  out : ToO A w w' n n

theorem to_out {A : Nat → Nat → Int} {w wi : World} {n r : Nat} {Z : Nat → Nat → Nat} (h : ToR A w wi n r n Z) (hZ : ∀ i j, i < r → j < n → Z i j = floatOfInt .f64 (A i j)) : ToO A w wi n (r + 1) := by
  obtain ⟨zz, h1, h2⟩ := h
  refine ⟨_, inner_done h1, fun i j hi hj => ?_⟩
  by_cases e : i = r
  · subst e
    rw [if_pos rfl]
    exact h2 j hj
  · rw [if_neg e]
    exact hZ i j (by omega) hj

theorem to_step {A : Nat → Nat → Int} {w wi : World} {n r c : Nat} {Z : Nat → Nat → Nat} {zz : Nat → Nat} (h1 : Inner w wi n r Z zz) (h2 : ∀ j, j < c → zz j = floatOfInt .f64 (A r j)) :
    ToR A w (wi.setCell ⟨w.heap.size + 1 + r, c, none⟩ (.float .f64 (floatOfInt .f64 (A r c)))).drew n r (c + 1) Z := by
  refine ⟨_, inner_draw (inner_step h1 c (floatOfInt .f64 (A r c))) 1, fun j hj => ?_⟩
  by_cases e : j = c
  · subst e
    rw [if_pos rfl]
  · rw [if_neg e]
    exact h2 j (by omega)

set_option maxHeartbeats 4000000 in
set_option maxRecDepth 100000 in
theorem tof_walk (a : Option Addr) (n ca : Nat) (A : Nat → Nat → Int) (w : World) (hn : n ≤ 256) (ha : IMat w a n A) :
    Calls Try.prog 10 #[.slice a n ca] w (ToEnd A n w) := by
  have HA := hid ha
  clear ha
  have hmk25 := run_make_row' (P := Try.prog) 25 28 (.slice none 0 0) 24 Try.underlying25 Try.info28 rfl .i64 .i64 n (by omega) (by omega)
  go_enter Try.func10, Try.ntmps10
  go_wp2
  clear hmk25
  go_loopg [4] n (fun g i wr => ∃ r : Nat, r ≤ n ∧ g = n - r ∧ i = .int .i64 r ∧ ToO A w wr n r)
  case atStart => exact ⟨0, Nat.zero_le _, rfl, rfl, fun _ _ => 0, outer_start w n _, fun i j hi _ => absurd hi (Nat.not_lt_zero _)⟩
  case round =>
    obtain ⟨r, hr, rfl, rfl, hO⟩ := hrel
    by_cases hrn : r < n
    · obtain ⟨Z, hO, hZ⟩ := hO
      have HZ := hid hZ
      clear hZ
      obtain ⟨ga, oa, AG, AO, AC, rfl, ha1, ha2⟩ := HA.out.ex (by omega)
      have hrz : (r : Int) < (n : Int) := by omega
      have hsize := hO.size
      have hmk28 := run_make_row' (P := Try.prog) 28 31 (.float .f64 0) 8 Try.underlying28 Try.info31 rfl .i64 .i64 n (by omega) (by omega)
      have hI1 := inner_start hO
      rw [hsize] at hI1
      have hI0 := hid hI1
      clear hI1
      have c0 : wr.cell? ⟨ga, oa + r, none⟩ = some (.slice (some ⟨AG r, AO r, none⟩) n (AC r)) :=
        (hO.bel.cell (p := ⟨ga, oa + r, none⟩) (World.block_lt_of_cell? w _ (ha1 r hrn))).trans (ha1 r hrn)
      have hst1 : ∀ o, (wr.alloc o).cell? ⟨w.heap.size, r, none⟩ = some (top w.heap.size n r r) := fun o => (hO.top.alloc o).cell hrn
      have hst2 : ∀ o, (wr.alloc o).frozen? ⟨w.heap.size, r, none⟩ = false := fun o => (hO.top.alloc o).frozen r
      clear hO
      have HA1 := hid ha1
      have HA2 := hid ha2
      clear ha1 ha2
      go_wp2
      clear hmk28 hst1 hst2 hsize c0
      go_loopg [5] n (fun g i wi => ∃ c : Nat, c ≤ n ∧ g = n - c ∧ i = .int .i64 c ∧ ToR A w wi n r c Z)
      case atStart => exact ⟨0, Nat.zero_le _, rfl, rfl, _, hI0.out, fun j hj => absurd hj (Nat.not_lt_zero _)⟩
      case round =>
        clear hI0
        obtain ⟨c, hc, rfl, rfl, hM⟩ := hrel
        have c0 : wr.cell? ⟨ga, oa + r, none⟩ = some (.slice (some ⟨AG r, AO r, none⟩) n (AC r)) := by
          obtain ⟨zz, hI, -⟩ := hM
          have := HA1.out r hrn
          exact (hI.bel.cell (p := ⟨ga, oa + r, none⟩) (World.block_lt_of_cell? w _ this)).trans this
        by_cases hcn : c < n
        · have hcz : (c : Int) < (n : Int) := by omega
          obtain ⟨zz, hI, hz⟩ := hM
          have HI := hid hI
          have HQ := hid hz
          clear hI hz
          have c1 : wr.cell? ⟨AG r, AO r + c, none⟩ = some (.int .i16 (A r c)) := by
            have := HA2.out r c hrn hcn
            exact (HI.out.bel.cell (p := ⟨AG r, AO r + c, none⟩) (World.block_lt_of_cell? w _ this)).trans this
          have c2 : wr.cell? ⟨w.heap.size, r, none⟩ = some (.slice (some ⟨w.heap.size + 1 + r, 0, none⟩) n n) := by
            have := HI.out.top.cell hrn
            rw [top, if_pos (by omega)] at this
            exact this
          have c3 : wr.cell? ⟨w.heap.size + 1 + r, c, none⟩ = some (.float .f64 (zz c)) := HI.out.cur.cell hcn
          have c4 : wr.frozen? ⟨w.heap.size + 1 + r, c, none⟩ = false := HI.out.cur.frozen c
          have hst := run_store_float Try.prog
          have hcv : ∀ w n, (convert 29 31 (.int .i16 n)).run Try.prog w = .ok (.float .f64 (floatOfInt .f64 n)) w := fun w n => run_convert_int_float w 29 31 .i16 .f64 n (by rw [Try.underlying29]; rfl) Try.underlying31
          go_wp2_with fail
          go_region
          go_wp2
          go_roundg (n - (c + 1))
          case measure => go_light; omega
          case rel => go_light; exact ⟨c + 1, by omega, rfl, by simp, to_step HI.out HQ.out⟩
        · obtain rfl : c = n := by omega
          have HM := hid (to_out hM HZ.out)
          clear hM
          go_wp2
          go_roundg (c - (r + 1))
          case measure => go_light; omega
          case rel => go_light; exact ⟨r + 1, by omega, rfl, by simp, HM.out⟩
    · obtain rfl : r = n := by omega
      have HO := hid hO
      clear hO
      go_wp2
      go_ret
      exact ⟨rfl, HO.out⟩
end Go.Proofs.Qxb6606026a
