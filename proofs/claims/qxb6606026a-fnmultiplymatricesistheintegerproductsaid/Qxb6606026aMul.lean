import Derived.Test.Qxb6606026aBase
namespace Go.Proofs.Qxb6606026a
open Go.RowKit

/-- What the first k products of row i and column j may sum to. -/
def Acc (X Y : Nat → Nat → Nat) (i j : Nat) : Nat → Nat → Prop
  | 0, r => r = 0
  | k + 1, r => ∃ r0 p, Acc X Y i j k r0 ∧ FRel .mul (X i k) (Y k j) p ∧ FRel .add r0 p r

/-- Row r, k columns of it and c cells of the next. -/
def MidR (X Y : Nat → Nat → Nat) (w wi : World) (n r k c : Nat) (Z : Nat → Nat → Nat) : Prop :=
  ∃ zz, Inner w wi n r Z zz ∧ ∀ j, j < n → Acc X Y r j (if j < c then k + 1 else k) (zz j)

def OutR (X Y : Nat → Nat → Nat) (w wr : World) (n r : Nat) : Prop :=
  ∃ Z, Outer w wr n r Z ∧ ∀ i j, i < r → j < n → Acc X Y i j n (Z i j)

/-- How the product ends. -/
structure MulEnd (X Y : Nat → Nat → Nat) (n : Nat) (w : World) (e : Ending) (w' : World) : Prop where
  res : e = .returned (.slice (some ⟨w.heap.size, 0, none⟩) n n)
  out : OutR X Y w w' n n

theorem mid_next {X Y : Nat → Nat → Nat} {w wi : World} {n r k : Nat} {Z : Nat → Nat → Nat} (h : MidR X Y w wi n r k n Z) : MidR X Y w wi n r (k + 1) 0 Z := by
  obtain ⟨zz, h1, h2⟩ := h
  exact ⟨zz, h1, fun j hj => by have := h2 j hj; rw [if_pos hj] at this; rw [if_neg (by omega)]; exact this⟩

theorem mid_out {X Y : Nat → Nat → Nat} {w wi : World} {n r : Nat} {Z : Nat → Nat → Nat} (h : MidR X Y w wi n r n 0 Z) (hZ : ∀ i j, i < r → j < n → Acc X Y i j n (Z i j)) : OutR X Y w wi n (r + 1) := by
  obtain ⟨zz, h1, h2⟩ := h
  refine ⟨_, inner_done h1, fun i j hi hj => ?_⟩
  by_cases e : i = r
  · subst e
    rw [if_pos rfl]
    have := h2 j hj
    rw [if_neg (by omega)] at this
    exact this
  · rw [if_neg e]
    exact hZ i j (by omega) hj

theorem mid_step {X Y : Nat → Nat → Nat} {w wi : World} {n r k c : Nat} {Z : Nat → Nat → Nat} {zz : Nat → Nat} (h1 : Inner w wi n r Z zz) (h2 : ∀ j, j < n → Acc X Y r j (if j < c then k + 1 else k) (zz j)) (hc : c < n)
    {p v q : Nat} (hp : FRel .mul (X r k) (Y k c) p) (hv : FRel .add (zz c) p v) : MidR X Y w ((wi.drewN q).setCell ⟨w.heap.size + 1 + r, c, none⟩ (.float .f64 v)) n r k (c + 1) Z := by
  refine ⟨_, inner_step (inner_draw h1 q) c v, fun j hj => ?_⟩
  by_cases e : j = c
  · subst e
    rw [if_pos rfl, if_pos (by omega)]
    have := h2 j hj
    rw [if_neg (by omega)] at this
    exact ⟨_, p, this, hp, hv⟩
  · rw [if_neg e]
    have := h2 j hj
    by_cases g : j < c
    · rw [if_pos g] at this; rw [if_pos (by omega)]; exact this
    · rw [if_neg g] at this; rw [if_neg (by omega)]; exact this

set_option maxHeartbeats 4000000 in
set_option maxRecDepth 100000 in
theorem mul_walk (a b : Option Addr) (n ca cb : Nat) (X Y : Nat → Nat → Nat) (w : World) (hn : n ≤ 256) (ha : Mat w a n X) (hb : Mat w b n Y) :
    Calls Try.prog 23 #[.slice a n ca, .slice b n cb] w (MulEnd X Y n w) := by
  have HA := hid ha
  have HB := hid hb
  clear ha hb
  have hmk25 := run_make_row' (P := Try.prog) 25 28 (.slice none 0 0) 24 Try.underlying25 Try.info28 rfl .i64 .i64 n (by omega) (by omega)
  go_enter Try.func23, Try.ntmps23
  go_wp2
  clear hmk25
  go_loopg [16] n (fun g i wr => ∃ r : Nat, r ≤ n ∧ g = n - r ∧ i = .int .i64 r ∧ OutR X Y w wr n r)
  case atStart => exact ⟨0, Nat.zero_le _, rfl, rfl, fun _ _ => 0, outer_start w n _, fun i j hi _ => absurd hi (Nat.not_lt_zero _)⟩
  case round =>
    obtain ⟨r, hr, rfl, rfl, hO⟩ := hrel
    by_cases hrn : r < n
    · obtain ⟨Z, hO, hZ⟩ := hO
      have HZ := hid hZ
      clear hZ
      obtain ⟨ga, oa, AG, AO, AC, rfl, ha1, ha2⟩ := HA.out.ex (by omega)
      obtain ⟨gb, ob, BG, BO, BC, rfl, hb1, hb2⟩ := HB.out.ex (by omega)
      have hrz : (r : Int) < (n : Int) := by omega
      have hsize := hO.size
      have hmk28 := run_make_row' (P := Try.prog) 28 31 (.float .f64 0) 8 Try.underlying28 Try.info31 rfl .i64 .i64 n (by omega) (by omega)
      have hI1 := inner_start hO
      rw [hsize] at hI1
      have hI0 := hid hI1
      clear hI1
      have c1 : wr.cell? ⟨gb, ob, none⟩ = some (.slice (some ⟨BG 0, BO 0, none⟩) n (BC 0)) := (hO.bel.cell (p := ⟨gb, ob, none⟩) (World.block_lt_of_cell? w _ (hb1 0 (by omega)))).trans (hb1 0 (by omega))
      have c2 : ∀ o v, ((wr.alloc o).setCell ⟨w.heap.size, r, none⟩ v).cell? ⟨ga, oa + r, none⟩ = some (.slice (some ⟨AG r, AO r, none⟩) n (AC r)) := fun o v => by
        have hg := World.block_lt_of_cell? w ⟨ga, oa + r, none⟩ (ha1 r hrn)
        have hg' : ga < w.heap.size := hg
        rw [World.cell?_setCell_other _ _ _ _ (fun e => by have := congrArg Addr.block e; simp at this; omega), World.cell?_alloc_old _ _ _ (by show ga ≠ wr.heap.size; omega)]
        exact (hO.bel.cell (p := ⟨ga, oa + r, none⟩) hg).trans (ha1 r hrn)
      have hst1 : ∀ o, (wr.alloc o).cell? ⟨w.heap.size, r, none⟩ = some (top w.heap.size n r r) := fun o => (hO.top.alloc o).cell hrn
      have hst2 : ∀ o, (wr.alloc o).frozen? ⟨w.heap.size, r, none⟩ = false := fun o => (hO.top.alloc o).frozen r
      clear hO
      have HA1 := hid ha1
      have HA2 := hid ha2
      have HB1 := hid hb1
      have HB2 := hid hb2
      clear ha1 ha2 hb1 hb2
      go_wp2
      clear hmk28 hst1 hst2 hsize c1 c2
      go_loopg [32] n (fun g i wi => ∃ k : Nat, k ≤ n ∧ g = n - k ∧ i = .int .i64 k ∧ MidR X Y w wi n r k 0 Z)
      case atStart => exact ⟨0, Nat.zero_le _, rfl, rfl, _, hI0.out, fun j hj => rfl⟩
      case round =>
        clear hI0
        obtain ⟨k, hk, rfl, rfl, hM⟩ := hrel
        by_cases hkn : k < n
        · have hkz : (k : Int) < (n : Int) := by omega
          have HM := hid hM
          clear hM
          have c1 : wr.cell? ⟨AG r, AO r + k, none⟩ = some (.float .f64 (X r k)) := by
            obtain ⟨zz, hI, -⟩ := HM.out
            have := HA2.out r k hrn hkn
            exact (hI.bel.cell (p := ⟨AG r, AO r + k, none⟩) (World.block_lt_of_cell? w _ this)).trans this
          have c2 : wr.cell? ⟨gb, ob + k, none⟩ = some (.slice (some ⟨BG k, BO k, none⟩) n (BC k)) := by
            obtain ⟨zz, hI, -⟩ := HM.out
            have := HB1.out k hkn
            exact (hI.bel.cell (p := ⟨gb, ob + k, none⟩) (World.block_lt_of_cell? w _ this)).trans this
          go_wp2
          clear c1 c2
          go_loopg [42] n (fun g i wi => ∃ c : Nat, c ≤ n ∧ g = n - c ∧ i = .int .i64 c ∧ MidR X Y w wi n r k c Z)
          case atStart => exact ⟨0, Nat.zero_le _, rfl, rfl, HM.out⟩
          case round =>
            clear HM
            obtain ⟨c, hc, rfl, rfl, hM⟩ := hrel
            by_cases hcn : c < n
            · have hcz : (c : Int) < (n : Int) := by omega
              obtain ⟨zz, hI, hz⟩ := hM
              have HI := hid hI
              have HQ := hid hz
              clear hI hz
              have c1 : wr.cell? ⟨BG k, BO k + c, none⟩ = some (.float .f64 (Y k c)) := by
                have := HB2.out k c hkn hcn
                exact (HI.out.bel.cell (p := ⟨BG k, BO k + c, none⟩) (World.block_lt_of_cell? w _ this)).trans this
              have c2 : wr.cell? ⟨w.heap.size, r, none⟩ = some (.slice (some ⟨w.heap.size + 1 + r, 0, none⟩) n n) := by
                have := HI.out.top.cell hrn
                rw [top, if_pos (by omega)] at this
                exact this
              have c3 : wr.cell? ⟨w.heap.size + 1 + r, c, none⟩ = some (.float .f64 (zz c)) := HI.out.cur.cell hcn
              have c4 : wr.frozen? ⟨w.heap.size + 1 + r, c, none⟩ = false := HI.out.cur.frozen c
              go_wp2_with (refine wpList_float _ rfl .mul 31 31 (.tmp 54) (.tmp 55) rfl (.inr (.inl rfl)) _ _ rfl rfl ?_)
              intro p q1 hp
              have HP := hid hp
              clear hp
              go_wp2_with (refine wpList_float _ rfl .add 31 31 (.tmp 53) (.tmp 56) rfl (.inl rfl) _ _ rfl rfl ?_)
              intro v q2 hv
              have HV := hid hv
              clear hv
              have c5 : (wr.drewN (q1 + q2)).cell? ⟨w.heap.size + 1 + r, c, none⟩ = some (.float .f64 (zz c)) := c3
              have c6 : (wr.drewN (q1 + q2)).frozen? ⟨w.heap.size + 1 + r, c, none⟩ = false := c4
              clear c1 c2 c3 c4
              generalize hwd : wr.drewN (q1 + q2) = wd at *
              have HW := hid hwd
              clear hwd
              have hst := run_store_float Try.prog
              go_wp2
              go_roundg (n - (c + 1))
              case measure => go_light; omega
              case rel => go_light; exact ⟨c + 1, by omega, rfl, by simp, by rw [← HW.out]; exact mid_step (q := q1 + q2) HI.out HQ.out hcn HP.out HV.out⟩
            · obtain rfl : c = n := by omega
              have HM := hid (mid_next hM)
              clear hM
              go_wp2
              go_roundg (c - (k + 1))
              case measure => go_light; omega
              case rel => go_light; exact ⟨k + 1, by omega, rfl, by simp, HM.out⟩
        · obtain rfl : k = n := by omega
          have HM := hid (mid_out hM HZ.out)
          clear hM
          go_wp2
          go_roundg (k - (r + 1))
          case measure => go_light; omega
          case rel => go_light; exact ⟨r + 1, by omega, rfl, by simp, HM.out⟩
    · obtain rfl : r = n := by omega
      have HO := hid hO
      clear hO
      go_wp2
      go_ret
      exact ⟨rfl, HO.out⟩

set_option maxRecDepth 100000 in
theorem zzmul_walk (a b : Option Addr) (n ca cb : Nat) (X Y : Nat → Nat → Nat) (w : World) (hn : n ≤ 256) (ha : Mat w a n X) (hb : Mat w b n Y) :
    Calls Try.prog 9 #[.slice a n ca, .slice b n cb] w (MulEnd X Y n w) := by
  have HC := hid (mul_walk a b n ca cb X Y w hn ha hb)
  clear ha hb
  go_enter Try.func9, Try.ntmps9
  go_wp2_with fail
  refine HC.out.mono ?_
  rintro e w' ⟨rfl, h2⟩
  have HE := hid h2
  clear h2
  go_wp2
  go_ret
  exact ⟨rfl, HE.out⟩
end Go.Proofs.Qxb6606026a
