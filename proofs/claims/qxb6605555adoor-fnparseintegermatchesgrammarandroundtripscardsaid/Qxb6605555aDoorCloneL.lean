import Derived.Test.Qxb6605555aDoorRows
import Derived.WalkKit
import Derived.Below
import Derived.Lib.SliceRun
import Derived.Deep.OwnRows
namespace Go.Proofs.Qxb6605555aDoor
open Go.RowKit

theorem Tryd.info40c : (Tryd.prog.info? 40).map (fun i => (i.zero, i.size, i.bytes)) = some (some (.int .u64 0), 1, 8) := by kernel_rfl

set_option maxHeartbeats 1000000 in
/-- cloneLimbs of a slice that is not nil: a new row with the same bytes. -/
theorem clonel_any (b off n c : Nat) (z : Nat → Int) (w : World) (hn : n ≤ 1048577) (hb : 0 < n → b < w.heap.size)
    (hc : ∀ j, j < n → w.cell? ⟨b, off + j, none⟩ = some (.int .u64 (z j))) :
    Calls Tryd.prog 14 #[.slice (some ⟨b, off, none⟩) n c] w fun e w' => e = .returned (.slice (some ⟨w.heap.size, 0, none⟩) n n) ∧
      w'.rowIs w.heap.size 40 n (fun j => .int .u64 (z j)) ∧ Below w.heap.size w w' ∧ w'.heap.size = w.heap.size + 1 := by
  have q25 : ∀ (w : World) (a : Option Addr) (n c n' c' : Nat), (binOp .eql 25 (.slice a n c) (.slice none n' c')).run Tryd.prog w = .ok (.bool a.isNone) w := fun w a n c n' c' => Lib.run_eql_slice_nil w _ _ a n c n' c' Tryd.underlying25
  have hmk := run_make_row' (P := Tryd.prog) 25 40 (.int .u64 0) 8 Tryd.underlying25 Tryd.info40c rfl .i64 .i64 n (by omega) (by omega)
  go_enter Tryd.func14, Tryd.ntmps14
  go_wp2
  go_loopw [4] (fun i wr => ∃ k : Nat, i = .int .i64 k ∧ k ≤ n ∧ wr.rowIs w.heap.size 40 n (fun j => if j < k then .int .u64 (z j) else .int .u64 0) ∧ Below w.heap.size w wr ∧ wr.heap.size = w.heap.size + 1) (fun i _ => n - (intOf i).toNat)
  case atStart => exact ⟨0, rfl, Nat.zero_le _, (World.rowIs_made w (.int .u64 0) n 40).congr (fun j hj => by simp), (Below.refl _ _).alloc (Nat.le_refl _) _, by simp⟩
  case round =>
    obtain ⟨k, rfl, hk, hrow, hbel, hsz⟩ := hrel
    clear q25 hmk
    by_cases hlt : k < n
    · have hck : wr.cell? ⟨b, off + k, none⟩ = some (.int .u64 (z k)) := (hbel.cell (p := ⟨b, off + k, none⟩) (hb (by omega))).trans (hc k hlt)
      have hcg : wr.cell? ⟨w.heap.size, k, none⟩ = some (.int .u64 0) := by rw [hrow.cell hlt]; simp
      have hfg : wr.frozen? ⟨w.heap.size, k, none⟩ = false := hrow.frozen k
      have R1 : Hid ((wr.setCell ⟨w.heap.size, k, none⟩ (.int .u64 (z k))).rowIs w.heap.size 40 n (fun j => if j < k + 1 then .int .u64 (z j) else .int .u64 0)) :=
        (hrow.set k (.int .u64 (z k))).congr (fun j hj => by
          by_cases e : j = k
          · subst e; simp
          · simp only [if_neg e]
            by_cases g : j < k
            · rw [if_pos g, if_pos (by omega)]
            · rw [if_neg g, if_neg (by omega)])
      have R2 : Hid (Below w.heap.size w (wr.setCell ⟨w.heap.size, k, none⟩ (.int .u64 (z k)))) := hbel.setCell (Nat.le_refl _) _
      have R3 : Hid ((wr.setCell ⟨w.heap.size, k, none⟩ (.int .u64 (z k))).heap.size = w.heap.size + 1) := by show _ = _; rw [← hsz]; simp [World.setCell]
      clear hrow hbel hsz
      go_wp2
      go_roundw
      case rel => exact ⟨k + 1, by go_num, by omega, R1.out, R2.out, R3.out⟩
      case measure => simp [intOf]; omega
    · go_wp2
      go_ret
      exact ⟨rfl, hrow.congr (fun j hj => by rw [if_pos (by omega)]), hbel, hsz⟩
end Go.Proofs.Qxb6605555aDoor
