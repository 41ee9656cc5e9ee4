import Derived.Test.Qxb6606026aMul
import Derived.Test.Qxb6606026aSq
import Derived.Test.Qxb6606026aFlt
import Derived.BigQuiet
import Derived.BigGuard
import Derived.Deep.QuietTactic
namespace Go.Proofs.Qxb6606026a
open Go.RowKit

/-- A finite number. -/
def Fin64 (x : Nat) : Prop := ∃ s m i, Ieee.double.read x = .number s m i

theorem fin_of_sub {x r : Nat} (h : FRel .sub x x r) (he : Ieee.double.order r 0 = some .eq) : Fin64 x := by
  have hnan : NaNB r → False := fun ⟨s, t, hr⟩ => by
    unfold Ieee.Format.order at he
    rw [hr] at he
    simp [Ieee.Datum.order] at he
  cases hx : Ieee.double.read x with
  | number s m i => exact ⟨s, m, i, hx⟩
  | infinity s =>
    have e : floatBits .sub .f64 x x = none := by
      show Ieee.double.sub x x = none
      unfold Ieee.Format.sub
      rw [hx]
      cases s <;> rfl
    rcases h with h | ⟨_, h⟩
    · rw [e] at h; cases h
    · exact absurd h hnan
  | nan s t =>
    have e : floatBits .sub .f64 x x = none := by
      show Ieee.double.sub x x = none
      unfold Ieee.Format.sub
      rw [hx]
      rfl
    rcases h with h | ⟨_, h⟩
    · rw [e] at h; cases h
    · exact absurd h hnan

/-- A test that only draws. -/
structure TestEnd (p : Prop) (w : World) (e : Ending) (w' : World) : Prop where
  ex : ∃ v : Bool, e = .returned (.bool v) ∧ (v = true → p)
  same : ∃ q, w' = w.drewN q

set_option maxRecDepth 100000 in
theorem finite_walk (x : Nat) (w : World) : Calls Try.prog 25 #[.float .f64 x] w (TestEnd (Fin64 x) w) := by
  go_enter Try.func25, Try.ntmps25
  go_wp2_with (refine wpList_float _ rfl .sub 31 31 (.tmp 3) (.tmp 4) rfl (.inr (.inr rfl)) _ _ rfl rfl ?_)
  intro r q hr
  have HR := hid hr
  clear hr
  obtain ⟨v, hv⟩ : ∃ v, (FloatKind.f64.format.order r 0 == some Ordering.eq) = v := ⟨_, rfl⟩
  go_wp2
  go_ret
  refine ⟨⟨v, rfl, fun hvt => ?_⟩, q, rfl⟩
  rw [hvt] at hv
  exact fin_of_sub HR.out (beq_iff_eq.1 hv)

set_option maxHeartbeats 2000000 in
set_option maxRecDepth 100000 in
theorem allfin_walk (a : Option Addr) (n ca : Nat) (X : Nat → Nat → Nat) (w : World) (hn : n ≤ 256) (ha : Mat w a n X) :
    Calls Try.prog 18 #[.slice a n ca] w (TestEnd (∀ i j, i < n → j < n → Fin64 (X i j)) w) := by
  have HA := hid ha
  clear ha
  generalize hP : (∀ i j, i < n → j < n → Fin64 (X i j)) = P0
  have HP := hid hP
  clear hP
  go_enter Try.func18, Try.ntmps18
  go_wp2
  go_loopg [3] n (fun g t wr => ∃ i : Nat, t = .int .i64 i ∧ i ≤ n ∧ g = n - i ∧ Hid (∃ q, wr = w.drewN q) ∧ Hid (∀ a b, a < i → b < n → Fin64 (X a b)))
  case atStart => exact ⟨0, rfl, Nat.zero_le _, rfl, ⟨0, rfl⟩, fun a b ha _ => absurd ha (Nat.not_lt_zero _)⟩
  case round =>
    obtain ⟨i, rfl, hi, rfl, HW, HF⟩ := hrel
    by_cases hin : i < n
    · have hiz : (i : Int) < (n : Int) := by omega
      go_wp2
      go_loopg [4] n (fun g t wr => ∃ j : Nat, t = .int .i64 j ∧ j ≤ n ∧ g = n - j ∧ Hid (∃ q, wr = w.drewN q) ∧ Hid (∀ b, b < j → Fin64 (X i b)))
      case atStart => exact ⟨0, rfl, Nat.zero_le _, rfl, HW, fun b hb => absurd hb (Nat.not_lt_zero _)⟩
      case round =>
        clear HW
        obtain ⟨j, rfl, hj, rfl, HW, HG⟩ := hrel
        obtain ⟨g, o, RG, RO, RC, rfl, h1, h2⟩ := HA.out.ex (by omega)
        have c1 : wr.cell? ⟨g, o + i, none⟩ = some (.slice (some ⟨RG i, RO i, none⟩) n (RC i)) := by
          obtain ⟨q, rfl⟩ := HW.out
          exact h1 i hin
        by_cases hjn : j < n
        · have hjz : (j : Int) < (n : Int) := by omega
          have c2 : wr.cell? ⟨RG i, RO i + j, none⟩ = some (.float .f64 (X i j)) := by
            obtain ⟨q, rfl⟩ := HW.out
            exact h2 i j hin hjn
          clear h1 h2
          go_wp2_with fail
          go_at_call 25
          refine (finite_walk (X i j) wr).mono ?_
          rintro e w' ⟨⟨v, rfl, hv⟩, q, hq⟩
          have HV := hid hv
          have HW' : Hid (∃ q, w' = w.drewN q) := by
            obtain ⟨q', h⟩ := HW.out
            exact ⟨q' + q, by rw [hq, h, World.drewN_drewN]⟩
          clear hv hq HW c1 c2
          cases v with
          | true =>
            have HG' : Hid (∀ b, b < j + 1 → Fin64 (X i b)) := fun b hb => by
              by_cases e : b = j
              · rw [e]; exact HV.out rfl
              · exact HG.out b (by omega)
            clear HV
            go_wp2
            go_roundg (n - (j + 1))
            case measure => go_light; omega
            case rel => go_light; exact ⟨j + 1, by go_num, by omega, rfl, HW'.out, HG'.out⟩
          | false =>
            clear HV
            go_wp2
            go_ret
            exact ⟨⟨false, rfl, fun q => by cases q⟩, HW'.out⟩
        · have hjz : ¬ (j : Int) < (n : Int) := by omega
          clear h1 h2
          have HF' : Hid (∀ a b, a < i + 1 → b < n → Fin64 (X a b)) := fun a b ha hb => by
            by_cases e : a = i
            · rw [e]; exact HG.out b (by omega)
            · exact HF.out a b (by omega) hb
          go_wp2
          go_roundg (n - (i + 1))
          case measure => go_light; omega
          case rel => go_light; exact ⟨i + 1, by go_num, by omega, rfl, HW.out, HF'.out⟩
    · have hiz : ¬ (i : Int) < (n : Int) := by omega
      go_wp2
      go_ret
      exact ⟨⟨true, rfl, fun _ => by rw [← HP.out]; exact fun a b ha hb => HF.out a b (by omega) hb⟩, HW.out⟩

/-- The identity's cells. -/
def idm (i j : Nat) : Nat := if j = i then 4607182418800017408 else 0

def IdO (w wr : World) (n r : Nat) : Prop := ∃ Z, Outer w wr n r Z ∧ ∀ i j, i < r → j < n → Z i j = idm i j

structure IdEnd (n : Nat) (w : World) (e : Ending) (w' : World) : Prop where
  res : e = .returned (.slice (some ⟨w.heap.size, 0, none⟩) n n)
  out : IdO w w' n n

theorem id_step {w wi : World} {n r : Nat} {Z : Nat → Nat → Nat} (h : Inner w wi n r Z (fun _ => 0)) (hZ : ∀ i j, i < r → j < n → Z i j = idm i j) :
    IdO w (wi.setCell ⟨w.heap.size + 1 + r, r, none⟩ (.float .f64 4607182418800017408)) n (r + 1) := by
  refine ⟨_, inner_done (inner_step h r 4607182418800017408), fun i j hi hj => ?_⟩
  by_cases e : i = r
  · subst e
    rw [if_pos rfl]
    rfl
  · rw [if_neg e]
    exact hZ i j (by omega) hj

set_option maxHeartbeats 2000000 in
set_option maxRecDepth 100000 in
theorem ident_walk (n : Nat) (w : World) (hn : n ≤ 256) : Calls Try.prog 19 #[.int .i64 n] w (IdEnd n w) := by
  have hmk25 := run_make_row' (P := Try.prog) 25 28 (.slice none 0 0) 24 Try.underlying25 Try.info28 rfl .i64 .i64 n (by omega) (by omega)
  go_enter Try.func19, Try.ntmps19
  go_wp2
  clear hmk25
  go_loopg [4] n (fun g i wr => ∃ r : Nat, r ≤ n ∧ g = n - r ∧ i = .int .i64 r ∧ IdO w wr n r)
  case atStart => exact ⟨0, Nat.zero_le _, rfl, rfl, fun _ _ => 0, outer_start w n _, fun i j hi _ => absurd hi (Nat.not_lt_zero _)⟩
  case round =>
    obtain ⟨r, hr, rfl, rfl, hO⟩ := hrel
    by_cases hrn : r < n
    · obtain ⟨Z, hO, hZ⟩ := hO
      have HZ := hid hZ
      clear hZ
      have hrz : (r : Int) < (n : Int) := by omega
      have hsize := hO.size
      have hmk28 := run_make_row' (P := Try.prog) 28 31 (.float .f64 0) 8 Try.underlying28 Try.info31 rfl .i64 .i64 n (by omega) (by omega)
      have hI1 := inner_start hO
      rw [hsize] at hI1
      have hI0 := hid hI1
      have c2 : ((wr.alloc (.cells (madeCells #[.float .f64 0] n) 31)).setCell ⟨w.heap.size, r, none⟩ (.slice (some ⟨w.heap.size + 1 + r, 0, none⟩) n n)).cell? ⟨w.heap.size, r, none⟩ = some (.slice (some ⟨w.heap.size + 1 + r, 0, none⟩) n n) := by
        have := hI1.top.cell hrn
        rw [top, if_pos (by omega)] at this
        exact this
      have c3 := hI1.cur.cell hrn
      have c4 := hI1.cur.frozen r
      have hst1 : ∀ o, (wr.alloc o).cell? ⟨w.heap.size, r, none⟩ = some (top w.heap.size n r r) := fun o => (hO.top.alloc o).cell hrn
      have hst2 : ∀ o, (wr.alloc o).frozen? ⟨w.heap.size, r, none⟩ = false := fun o => (hO.top.alloc o).frozen r
      clear hI1 hO
      have hst := run_store_float Try.prog
      go_wp2
      go_roundg (n - (r + 1))
      case measure => go_light; omega
      case rel => go_light; exact ⟨r + 1, by omega, rfl, by go_num, id_step hI0.out HZ.out⟩
    · obtain rfl : r = n := by omega
      have HO := hid hO
      clear hO
      go_wp2
      go_ret
      exact ⟨rfl, HO.out⟩

/-- True; only draws. -/
structure YesDraw (w : World) (e : Ending) (w' : World) : Prop where
  res : e = .returned (.bool true)
  same : ∃ q, w' = w.drewN q

set_option maxHeartbeats 2000000 in
set_option maxRecDepth 100000 in
theorem samemat_walk (a b : Option Addr) (n ca cb : Nat) (X Y : Nat → Nat → Nat) (w : World) (hn : n ≤ 256) (ha : Mat w a n X) (hb : Mat w b n Y) (he : ∀ i j, i < n → j < n → SameF (X i j) (Y i j)) :
    Calls Try.prog 20 #[.slice a n ca, .slice b n cb] w (YesDraw w) := by
  have HA := hid ha
  have HB := hid hb
  have HE := hid he
  clear ha hb he
  have hne : ((n : Int) != (n : Int)) = false := by simp
  go_enter Try.func20, Try.ntmps20
  go_wp2
  go_loopg [5] n (fun g t wr => ∃ i : Nat, t = .int .i64 i ∧ i ≤ n ∧ g = n - i ∧ Hid (∃ q, wr = w.drewN q))
  case atStart => exact ⟨0, rfl, Nat.zero_le _, rfl, ⟨0, rfl⟩⟩
  case round =>
    obtain ⟨i, rfl, hi, rfl, HW⟩ := hrel
    by_cases hin : i < n
    · have hiz : (i : Int) < (n : Int) := by omega
      obtain ⟨ga, oa, AG, AO, AC, rfl, a1, a2⟩ := HA.out.ex (by omega)
      obtain ⟨gb, ob, BG, BO, BC, rfl, b1, b2⟩ := HB.out.ex (by omega)
      have c1 : wr.cell? ⟨ga, oa + i, none⟩ = some (.slice (some ⟨AG i, AO i, none⟩) n (AC i)) := by
        obtain ⟨q, rfl⟩ := HW.out
        exact a1 i hin
      have c2 : wr.cell? ⟨gb, ob + i, none⟩ = some (.slice (some ⟨BG i, BO i, none⟩) n (BC i)) := by
        obtain ⟨q, rfl⟩ := HW.out
        exact b1 i hin
      have HA1 := hid a1
      have HA2 := hid a2
      have HB1 := hid b1
      have HB2 := hid b2
      clear a1 a2 b1 b2
      go_wp2_with fail
      go_quiet (fail)
      go_wp2
      have HW' : Hid (∃ q, wr.drewN nq = w.drewN q) := by
        obtain ⟨q', h⟩ := HW.out
        exact ⟨q' + nq, by rw [h, World.drewN_drewN]⟩
      clear HW c1 c2
      go_loopg [6] n (fun g t wr => ∃ j : Nat, t = .int .i64 j ∧ j ≤ n ∧ g = n - j ∧ Hid (∃ q, wr = w.drewN q))
      case atStart => exact ⟨0, rfl, Nat.zero_le _, rfl, HW'⟩
      case round =>
        clear HW'
        obtain ⟨j, rfl, hj, rfl, HW⟩ := hrel
        have c1 : wr.cell? ⟨ga, oa + i, none⟩ = some (.slice (some ⟨AG i, AO i, none⟩) n (AC i)) := by
          obtain ⟨q, rfl⟩ := HW.out
          exact HA1.out i hin
        by_cases hjn : j < n
        · have hjz : (j : Int) < (n : Int) := by omega
          have c2 : wr.cell? ⟨gb, ob + i, none⟩ = some (.slice (some ⟨BG i, BO i, none⟩) n (BC i)) := by
            obtain ⟨q, rfl⟩ := HW.out
            exact HB1.out i hin
          have c3 : wr.cell? ⟨AG i, AO i + j, none⟩ = some (.float .f64 (X i j)) := by
            obtain ⟨q, rfl⟩ := HW.out
            exact HA2.out i j hin hjn
          have c4 : wr.cell? ⟨BG i, BO i + j, none⟩ = some (.float .f64 (Y i j)) := by
            obtain ⟨q, rfl⟩ := HW.out
            exact HB2.out i j hin hjn
          go_wp2_with fail
          go_quiet ((go_at_call 16; exact Calls.quiet_of_same ((same_yes _ _ _ (HE.out i j hin hjn)).mono (fun e w' h => ⟨h.res, h.same⟩))))
          go_wp2
          have HW' : Hid (∃ q, wr.drewN nq = w.drewN q) := by
            obtain ⟨q', h⟩ := HW.out
            exact ⟨q' + nq, by rw [h, World.drewN_drewN]⟩
          go_roundg (n - (j + 1))
          case measure => go_light; omega
          case rel => go_light; exact ⟨j + 1, by go_num, by omega, rfl, HW'.out⟩
        · have hjz : ¬ (j : Int) < (n : Int) := by omega
          go_wp2
          go_roundg (n - (i + 1))
          case measure => go_light; omega
          case rel => go_light; exact ⟨i + 1, by go_num, by omega, rfl, HW.out⟩
    · have hiz : ¬ (i : Int) < (n : Int) := by omega
      go_wp2
      go_ret
      exact ⟨rfl, HW.out⟩
end Go.Proofs.Qxb6606026a
