import Derived.Test.Qxb6605555aDoorGrowL
import Derived.Lib.Walk
import Derived.Lib.ItoaWalk
import Derived.Lib.ItoaMem
import Derived.Lib.AppendIntMem
import Derived.Lib.Slices
import Derived.Lib.Hide
import Derived.OwnWalk
import Derived.WalkKit
import Derived.BigCall
import Derived.BigGuard
namespace Go.Proofs.Qxb6605555aDoor
open Go.RowKit Go.Sort Go.Lib

/-- A slice that has no room, and its cells. -/
structure Full (w : World) (ao : Option Addr) (n cap : Nat) (xs : List Value) : Prop where
  none : ao = none → n = 0 ∧ cap = 0
  cap : cap ≤ n
  len : xs.length = n
  cell : ∀ b, ao = some b → ∀ j u, xs[j]? = some u → w.cell? (b.add j) = some u

theorem Full.below {w w' : World} {ao : Option Addr} {n cap : Nat} {xs : List Value} (h : Full w ao n cap xs) (hb : Below w.heap.size w w') : Full w' ao n cap xs :=
  ⟨h.none, h.cap, h.len, fun b e j u hj => by
    have hc := h.cell b e j u hj
    have hl := World.block_lt_of_cell? w _ hc
    exact (hb.cell hl).trans hc⟩

/-- How AppendUint ends at a slice without room: a new row; nothing that was there is written. -/
structure GrowEnd (n : Nat) (xs : List Value) (T : List UInt8) (w : World) (e : Ending) (w' : World) : Prop where
  ex : ∃ v', e = .returned v' ∧ w'.ownsRow w.heap.size 5 1 v' (n + T.length) (xs ++ Lib.byteCells T)
  bel : Below w.heap.size w w'

theorem dec_pos (u : Nat) : 1 ≤ (Lib.decDigits u).length := by rw [Lib.decDigits_length]; exact Lib.nDigits_pos u

set_option maxHeartbeats 6400000 in
set_option maxRecDepth 100000 in
theorem app_grow_small (ao : Option Addr) (n cap u : Nat) (hu : u < 100) (xs : List Value) (w : World) (hfull : Full w ao n cap xs) (hlim : n + 20 ≤ 140737488355328) :
    Calls Tryd.prog 24 #[.slice ao n cap, .int .u64 u, .int .i64 10] w (GrowEnd n xs (Lib.decDigits u) w) := by
  have hlen : (Lib.decDigits u).length ≤ 18 := dec_le18 u (by omega)
  have hpos := dec_pos u
  have hsz : (⟨(Lib.decDigits u).toArray⟩ : ByteArray).size = (Lib.decDigits u).length := by simp [ByteArray.size]
  obtain ⟨i0, hi, hz0, hz1, hz2⟩ := info_parts Tryd.info5'
  have HFu := Lib.hid hfull
  have hcap := hfull.cap
  clear hfull
  go_enter Tryd.func24, Tryd.ntmps24
  go_wp2_with (first
    | (go_at_call 25; refine (Tryd.internal_strconv_small u hu _).mono ?_; rintro e w' ⟨rfl, rfl⟩)
    | (at_builtin; refine wpList_append_grows_str _ rfl _ _ 22 9 rfl 5 i0 Tryd.underlying22 Tryd.underlying9 hi hz0 hz1 hz2 ao n cap xs rfl HFu.out.none HFu.out.len HFu.out.cell ⟨(Lib.decDigits u).toArray⟩ rfl (by rw [hsz]; omega) (by rw [hsz]; unfold maxLen; omega) (by rw [hsz]; omega) ?_))
  intro v' w1 hown hgrow
  have HE : Hid (GrowEnd n xs (Lib.decDigits u) _ (.returned v') w1) := ⟨⟨v', rfl, by first | exact hown | (rw [hsz] at hown; exact hown)⟩, ⟨hgrow.os, hgrow.tape, hgrow.output, hgrow.size, fun k hk => hgrow.block k hk (by simp)⟩⟩
  clear hown hgrow
  go_wp2
  go_ret
  exact HE.out

set_option maxHeartbeats 12800000 in
set_option maxRecDepth 100000 in
theorem app_grow_big (ao : Option Addr) (n cap u : Nat) (hu : 100 ≤ u) (hu18 : u < 1000000000000000000) (xs : List Value) (w : World) (hfull : Full w ao n cap xs) (hlim : n + 20 ≤ 140737488355328)
    (htab : Lib.TabIs Tryd.prog w Tryd.powName .u64 Lib.pow10Tab) :
    Calls Tryd.prog 24 #[.slice ao n cap, .int .u64 u, .int .i64 10] w (GrowEnd n xs (Lib.decDigits u) w) := by
  have hlen : (Lib.decDigits u).length ≤ 18 := dec_le18 u hu18
  have hu64 : u < 18446744073709551616 := by omega
  obtain ⟨i0, hi, hz0, hz1, hz2⟩ := info_parts Tryd.info5'
  have hu1 : 1 ≤ u := by omega
  have hnd20 : Lib.nDigits u ≤ 18 := by rw [← Lib.decDigits_length]; exact hlen
  have hal : Tryd.prog.arrayLen 45 = 24 := by simp [Program.arrayLen, Tryd.underlying45]
  have hsl : ∀ W, (Instr.sliceAt 45 (.pointer (some ⟨w.heap.size, 0, none⟩)) none (some (.int .i64 (Lib.nDigits u : Int))) none).run Tryd.prog W = .ok (.slice (some ⟨w.heap.size, 0, none⟩) (Lib.nDigits u) 24) W := fun W => by
    rw [run_sliceAt_array_h W 45 ⟨w.heap.size, 0, none⟩ (by simp [Program.arrayLen, Program.elem, Tryd.underlying45]) .i64 (Lib.nDigits u : Int) (by omega) (by rw [hal]; omega)]
    go_simp
  have hH0 := Lib.holds_zero0 w 45 (Lib.nDigits u) (by omega)
  have hfmt := Tryd.internal_strconv_formatBase10 w.heap.size 0 24 u (Array.replicate (Lib.nDigits u) 0) (w.alloc (.cells Lib.zeros24 45)) hH0 (by rw [Array.size_replicate]; exact Lib.lt_pow_nDigits u) hu64 (by rw [Array.size_replicate]; omega)
  rw [Array.size_replicate] at hfmt
  have HH0 := Lib.hid hH0
  have iu : (100 : Int) ≤ (u : Int) := by omega
  have HFu := Lib.hid hfull
  have hcap := hfull.cap
  have hpos := dec_pos u
  rw [Lib.decDigits_length] at hpos
  clear hH0 hal hfull
  go_enter Tryd.func24, Tryd.ntmps24
  go_wp2_with (first
    | (go_at_call 26; refine (Tryd.internal_strconv_numDigits u hu1 hu64 _ (Lib.tabIs_alloc htab _)).mono ?_; rintro e w' ⟨rfl, rfl⟩))
  refine hfmt.mono ?_
  rintro e w' ⟨rfl, k, v', dk, rfl, hF⟩
  have hcells : ∀ j u', (Lib.byteCells (Lib.decDigits u))[j]? = some u' → ((putRow (fun (b : UInt8) => Value.int .u8 (b.toNat : Int)) (w.alloc (.cells Lib.zeros24 45)) w.heap.size 0 dk).drewN k).cell? ((⟨w.heap.size, 0, none⟩ : Addr).add j) = some u' := by
    intro j u' hj
    have hjl : j < (Lib.decDigits u).length := by
      have h5 := (List.getElem?_eq_some_iff.1 hj).1
      rwa [Lib.byteCells_length] at h5
    have e5 : (Lib.byteCells (Lib.decDigits u))[j]? = some (Value.int .u8 ((Lib.decDigits u)[j].toNat : Int)) := by simp [Lib.byteCells, hjl]
    rw [e5] at hj
    cases hj
    rw [Lib.row_is_numeral hF j hjl, Lib.add_plain, World.cell?_drewN]
    exact cell?_putRow (fun (b : UInt8) => Value.int .u8 (b.toNat : Int)) _ w.heap.size 0 _ dk HH0.out (by rw [hF.size, Array.size_replicate]) j (by rw [hF.size]; rw [Lib.decDigits_length] at hjl; exact hjl)
  obtain ⟨os, eo⟩ := Lib.fin_at w (.cells Lib.zeros24 45) dk k 0
  have hnx2 : Below w.heap.size w ((putRow (fun (b : UInt8) => Value.int .u8 (b.toNat : Int)) (w.alloc (.cells Lib.zeros24 45)) w.heap.size 0 dk).drewN k) := by rw [eo]; exact Lib.below_grow w.heap.size w (Nat.le_refl _) k os
  generalize (putRow (fun (b : UInt8) => Value.int .u8 (b.toNat : Int)) (w.alloc (.cells Lib.zeros24 45)) w.heap.size 0 dk).drewN k = W2 at hcells hnx2 ⊢
  have HFu2 := Lib.hid (HFu.out.below hnx2)
  have HNX := Lib.hid hnx2
  have HCC := Lib.hid hcells
  clear eo HH0 hfmt hnx2 hcells HFu
  go_wp2_with (at_builtin; refine wpList_append_grows _ rfl _ _ 22 rfl 5 i0 (.int .u8 0) 1 1 Tryd.underlying22 hi hz0 hz1 hz2 rfl (by decide) ao n cap xs rfl HFu2.out.none (by rw [Nat.mul_one]; exact HFu2.out.len) HFu2.out.cell ⟨w.heap.size, 0, none⟩ (Lib.nDigits u) 24 (Lib.byteCells (Lib.decDigits u)) rfl ?c0 HCC.out ?c2 ?c3 ?c4 ?c5 ?_)
  case c0 => simp [Lib.byteCells_length, Lib.decDigits_length]
  case c2 => intro u' hu'; simp only [Lib.byteCells, List.mem_map] at hu'; obtain ⟨b, _, rfl⟩ := hu'; rfl
  case c3 => omega
  case c4 => unfold maxLen; omega
  case c5 => omega
  intro v2 w3 hown hgrow
  have HE : Hid (GrowEnd n xs (Lib.decDigits u) w (.returned v2) w3) := by
    refine ⟨⟨v2, rfl, ?_⟩, HNX.out.trans ⟨hgrow.os, hgrow.tape, hgrow.output, hgrow.size, fun k hk => hgrow.block k (by have := HNX.out.size; omega) (by simp)⟩⟩
    rw [Lib.decDigits_length]
    obtain ⟨q1, q2⟩ := hown
    refine ⟨q1, ?_⟩
    rcases q2 with q2 | ⟨g, cp, cur, e1, e2, r⟩
    · exact .inl q2
    · exact .inr ⟨g, cp, cur, e1, by have := HNX.out.size; omega, r⟩
  clear hown hgrow
  go_wp2
  go_ret
  exact HE.out

theorem app_grow (ao : Option Addr) (n cap u : Nat) (hu18 : u < 1000000000000000000) (xs : List Value) (w : World) (hfull : Full w ao n cap xs) (hlim : n + 20 ≤ 140737488355328)
    (htab : Lib.TabIs Tryd.prog w Tryd.powName .u64 Lib.pow10Tab) :
    Calls Tryd.prog 24 #[.slice ao n cap, .int .u64 u, .int .i64 10] w (GrowEnd n xs (Lib.decDigits u) w) := by
  by_cases h100 : u < 100
  · exact app_grow_small ao n cap u h100 xs w hfull hlim
  · exact app_grow_big ao n cap u (by omega) hu18 xs w hfull hlim htab

set_option maxHeartbeats 1000000 in
theorem app22_grow (ao : Option Addr) (n cap u : Nat) (hu18 : u < 1000000000000000000) (xs : List Value) (w : World) (hfull : Full w ao n cap xs) (hlim : n + 20 ≤ 140737488355328)
    (htab : Lib.TabIs Tryd.prog w Tryd.powName .u64 Lib.pow10Tab) :
    Calls Tryd.prog 22 #[.slice ao n cap, .int .u64 u, .int .i64 10] w (GrowEnd n xs (Lib.decDigits u) w) := by
  have H1 := Lib.hid hfull
  have H2 := Lib.hid htab
  clear hfull htab
  go_enter Tryd.func22, Tryd.ntmps22
  go_wp2_with fail
  refine (app_grow ao n cap u hu18 xs w H1.out hlim H2.out).mono ?_
  rintro e w' ⟨⟨v', rfl, h1⟩, h2⟩
  have HE : Hid (GrowEnd n xs (Lib.decDigits u) w (.returned v') w') := ⟨⟨v', rfl, h1⟩, h2⟩
  clear h1 h2
  go_wp2
  go_ret
  exact HE.out
end Go.Proofs.Qxb6605555aDoor
