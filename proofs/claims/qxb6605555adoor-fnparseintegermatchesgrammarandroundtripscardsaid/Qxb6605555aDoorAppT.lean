import Derived.Test.Qxb6605555aDoorAppL
import Derived.Lib.Walk
import Derived.Lib.ItoaWalk
import Derived.Lib.ItoaMem
import Derived.Lib.AppendIntMem
import Derived.Lib.Slices
import Derived.Lib.Hide
import Derived.OwnWalk
import Derived.WalkKit
import Derived.BigCall
import Derived.BigGuard
namespace Go.Proofs.Qxb6605555aDoor
open Go.RowKit Go.Sort Go.Lib

theorem Tryd.info5' : (Tryd.prog.info? 5).map (fun i => (i.zero, i.size, i.bytes)) = some (some (.int .u8 0), 1, 1) := by kernel_rfl

theorem nDigits_le : ∀ (k u : Nat), 0 < k → u < 10 ^ k → Lib.nDigits u ≤ k
  | 0, _, h, _ => by omega
  | k + 1, u, _, h => by
    by_cases h10 : u < 10
    · rw [Lib.nDigits_small h10]; omega
    · rw [Lib.nDigits_big h10]
      have hk : 0 < k := by
        rcases Nat.eq_zero_or_pos k with e | e
        · subst e; simp at h; omega
        · exact e
      have := nDigits_le k (u / 10) hk (by rw [Nat.pow_succ] at h; omega)
      omega

theorem dec_le18 (u : Nat) (hu : u < 1000000000000000000) : (Lib.decDigits u).length ≤ 18 := by
  rw [Lib.decDigits_length]
  exact nDigits_le 18 u (by omega) (by simpa using hu)

set_option maxHeartbeats 6400000 in
set_option maxRecDepth 100000 in
theorem app_text_small (tb u : Nat) (hu : u < 100) (w : World) (cur : Array Value) (htb : w.heap[tb]? = some (.cells cur 42 (0, 0))) (hcur : cur.size = 18) :
    Calls Tryd.prog 24 #[.slice (some ⟨tb, 0, none⟩) 0 18, .int .u64 u, .int .i64 10] w (TextEnd tb u w) := by
  have hlen : (Lib.decDigits u).length ≤ 18 := dec_le18 u (by omega)
  have hsz : (⟨(Lib.decDigits u).toArray⟩ : ByteArray).size = (Lib.decDigits u).length := by simp [ByteArray.size]
  obtain ⟨i0, hi, hz0, hz1, hz2⟩ := info_parts Tryd.info5'
  have HE : Hid (TextEnd tb u w (.returned (.slice (some ⟨tb, 0, none⟩) (Lib.decDigits u).length 18)) (w.setCells tb 0 (Lib.byteCells (Lib.decDigits u)))) :=
    text_end htb hcur hlen ⟨rfl, rfl, rfl, Nat.le_refl _, fun _ _ _ => rfl⟩
  have HC : Hid (∀ j, j < (⟨(Lib.decDigits u).toArray⟩ : ByteArray).size → (w.cell? ⟨tb, 0 + 0 + j, none⟩).isSome = true) := fun j hj => by
    rw [hsz] at hj
    simp [World.cell?, htb, show j < cur.size by omega]
  have HF : Hid (∀ j, j < (⟨(Lib.decDigits u).toArray⟩ : ByteArray).size → w.frozen? ⟨tb, 0 + 0 + j, none⟩ = false) := fun j hj => by
    simp [World.frozen?, htb]
  clear htb
  go_enter Tryd.func24, Tryd.ntmps24
  go_wp2_with (first
    | (go_at_call 25; refine (Tryd.internal_strconv_small u hu _).mono ?_; rintro e w' ⟨rfl, rfl⟩)
    | (at_builtin; refine wpList_append_room_str _ rfl _ _ 22 9 rfl 5 i0 Tryd.underlying22 Tryd.underlying9 hi hz1 tb 0 0 18 rfl ⟨(Lib.decDigits u).toArray⟩ rfl (by rw [hsz]; omega) HC.out HF.out ?_))
  go_ret
  exact HE.out

set_option maxHeartbeats 12800000 in
set_option maxRecDepth 100000 in
theorem app_text_big (tb u : Nat) (hu : 100 ≤ u) (hu18 : u < 1000000000000000000) (w : World) (cur : Array Value) (htb : w.heap[tb]? = some (.cells cur 42 (0, 0))) (hcur : cur.size = 18)
    (htab : Lib.TabIs Tryd.prog w Tryd.powName .u64 Lib.pow10Tab) :
    Calls Tryd.prog 24 #[.slice (some ⟨tb, 0, none⟩) 0 18, .int .u64 u, .int .i64 10] w (TextEnd tb u w) := by
  have hlen : (Lib.decDigits u).length ≤ 18 := dec_le18 u hu18
  have hu64 : u < 18446744073709551616 := by omega
  obtain ⟨i0, hi, hz0, hz1, hz2⟩ := info_parts Tryd.info5'
  have hu1 : 1 ≤ u := by omega
  have hnd20 : Lib.nDigits u ≤ 18 := by rw [← Lib.decDigits_length]; exact hlen
  have hal : Tryd.prog.arrayLen 45 = 24 := by simp [Program.arrayLen, Tryd.underlying45]
  have hsl : ∀ W, (Instr.sliceAt 45 (.pointer (some ⟨w.heap.size, 0, none⟩)) none (some (.int .i64 (Lib.nDigits u : Int))) none).run Tryd.prog W = .ok (.slice (some ⟨w.heap.size, 0, none⟩) (Lib.nDigits u) 24) W := fun W => by
    rw [run_sliceAt_array_h W 45 ⟨w.heap.size, 0, none⟩ (by simp [Program.arrayLen, Program.elem, Tryd.underlying45]) .i64 (Lib.nDigits u : Int) (by omega) (by rw [hal]; omega)]
    go_simp
  have hH0 := Lib.holds_zero0 w 45 (Lib.nDigits u) (by omega)
  have hfmt := Tryd.internal_strconv_formatBase10 w.heap.size 0 24 u (Array.replicate (Lib.nDigits u) 0) (w.alloc (.cells Lib.zeros24 45)) hH0 (by rw [Array.size_replicate]; exact Lib.lt_pow_nDigits u) hu64 (by rw [Array.size_replicate]; omega)
  rw [Array.size_replicate] at hfmt
  have HH0 := Lib.hid hH0
  have iu : (100 : Int) ≤ (u : Int) := by omega
  have HT : Hid (w.heap[tb]? = some (.cells cur 42 (0, 0))) := htb
  have htl : tb < w.heap.size := (Array.getElem?_eq_some_iff.1 htb).1
  clear hH0 hal htb
  go_enter Tryd.func24, Tryd.ntmps24
  go_wp2_with (first
    | (go_at_call 26; refine (Tryd.internal_strconv_numDigits u hu1 hu64 _ (Lib.tabIs_alloc htab _)).mono ?_; rintro e w' ⟨rfl, rfl⟩))
  refine hfmt.mono ?_
  rintro e w' ⟨rfl, k, v', dk, rfl, hF⟩
  have hcells : ∀ j u', (Lib.byteCells (Lib.decDigits u))[j]? = some u' → ((putRow (fun (b : UInt8) => Value.int .u8 (b.toNat : Int)) (w.alloc (.cells Lib.zeros24 45)) w.heap.size 0 dk).drewN k).cell? ((⟨w.heap.size, 0, none⟩ : Addr).add j) = some u' := by
    intro j u' hj
    have hjl : j < (Lib.decDigits u).length := by
      have h5 := (List.getElem?_eq_some_iff.1 hj).1
      rwa [Lib.byteCells_length] at h5
    have e5 : (Lib.byteCells (Lib.decDigits u))[j]? = some (Value.int .u8 ((Lib.decDigits u)[j].toNat : Int)) := by simp [Lib.byteCells, hjl]
    rw [e5] at hj
    cases hj
    rw [Lib.row_is_numeral hF j hjl, Lib.add_plain, World.cell?_drewN]
    exact cell?_putRow (fun (b : UInt8) => Value.int .u8 (b.toNat : Int)) _ w.heap.size 0 _ dk HH0.out (by rw [hF.size, Array.size_replicate]) j (by rw [hF.size]; rw [Lib.decDigits_length] at hjl; exact hjl)
  obtain ⟨os, eo⟩ := Lib.fin_at w (.cells Lib.zeros24 45) dk k 0
  have hnx2 : Below w.heap.size w ((putRow (fun (b : UInt8) => Value.int .u8 (b.toNat : Int)) (w.alloc (.cells Lib.zeros24 45)) w.heap.size 0 dk).drewN k) := by rw [eo]; exact Lib.below_grow w.heap.size w (Nat.le_refl _) k os
  generalize (putRow (fun (b : UInt8) => Value.int .u8 (b.toNat : Int)) (w.alloc (.cells Lib.zeros24 45)) w.heap.size 0 dk).drewN k = W2 at hcells hnx2 ⊢
  have htb2 : W2.heap[tb]? = some (.cells cur 42 (0, 0)) := (hnx2.block tb htl).trans HT.out
  have HE : Hid (TextEnd tb u w (.returned (.slice (some ⟨tb, 0, none⟩) (Lib.decDigits u).length 18)) (W2.setCells tb 0 (Lib.byteCells (Lib.decDigits u)))) :=
    text_end htb2 hcur hlen ⟨hnx2.os, hnx2.tape, hnx2.output, hnx2.size, fun q hq _ => hnx2.block q hq⟩
  have HC : Hid (∀ j, j < (Lib.byteCells (Lib.decDigits u)).length → (W2.cell? ⟨tb, 0 + 0 + j, none⟩).isSome = true) := fun j hj => by
    rw [Lib.byteCells_length] at hj
    simp [World.cell?, htb2, show j < cur.size by omega]
  have HF : Hid (∀ j, j < (Lib.byteCells (Lib.decDigits u)).length → W2.frozen? ⟨tb, 0 + 0 + j, none⟩ = false) := fun j hj => by
    simp [World.frozen?, htb2]
  have HCC := Lib.hid hcells
  clear eo HH0 hfmt htb2 hnx2 HT hcells
  go_wp2_with (at_builtin; refine wpList_append_room_row _ rfl _ _ 22 rfl 5 i0 Tryd.underlying22 hi hz1 tb 0 0 18 rfl ⟨w.heap.size, 0, none⟩ (Lib.nDigits u) 24 (Lib.byteCells (Lib.decDigits u)) rfl ?c0 HCC.out ?c2 ?c3 HC.out HF.out ?_)
  case c0 => rw [Lib.byteCells_length, Lib.decDigits_length]
  case c2 => intro u' hu'; simp only [Lib.byteCells, List.mem_map] at hu'; obtain ⟨b, _, rfl⟩ := hu'; rfl
  case c3 => omega
  go_wp2
  go_ret
  rw [Lib.decDigits_length] at HE
  exact HE.out

/-- internal AppendUint(text[:0], u, 10). -/
theorem app_text (tb u : Nat) (hu : u < 1000000000000000000) (w : World) (h : ∃ cur, w.heap[tb]? = some (.cells cur 42 (0, 0)) ∧ cur.size = 18)
    (htab : Lib.TabIs Tryd.prog w Tryd.powName .u64 Lib.pow10Tab) :
    Calls Tryd.prog 24 #[.slice (some ⟨tb, 0, none⟩) 0 18, .int .u64 u, .int .i64 10] w (TextEnd tb u w) := by
  obtain ⟨cur, htb, hcur⟩ := h
  by_cases h100 : u < 100
  · exact app_text_small tb u h100 w cur htb hcur
  · exact app_text_big tb u (by omega) hu w cur htb hcur htab
end Go.Proofs.Qxb6605555aDoor
