import Derived.Test.Qxb6605555aDoorAppT
import Derived.ArgAppend
import Derived.Lib.AppendStr
namespace Go.Proofs.Qxb6605555aDoor
open Go.RowKit Go.Lib

section
variable {P : Program}
/-- append(dst, s...), s a string, dst without room: a new row. -/
theorem run_append_str_grows (w : World) (t u ty e : TypeId) (i : TypeInfo) (ht : P.underlying t = some (.slice e)) (hu : P.underlying u = some .string) (hi : P.info? e = some i) (hz : i.zero = some (.int .u8 0))
    (hsize : i.size = 1) (hby : i.bytes = 1) (b : Addr) (n cap : Nat) (olds : List Value) (hlo : olds.length = n) (holds : ∀ j v, olds[j]? = some v → w.cell? (b.add j) = some v) (s : ByteArray)
    (hg : cap < n + s.size) (h63 : n + s.size ≤ maxLen) (hbytes : n + s.size ≤ 140737488355328) :
    ∃ v' w', (Builtin.append_ #[t, u] ty #[.slice (some b) n cap, .string s]).run P w = .ok v' w' ∧ w'.ownsRow w.heap.size e 1 v' (n + s.size) (olds ++ strCells s) ∧ w.grownBy w' none := by
  have hz1 : (Value.int .u8 0).cells.size = 1 := rfl
  have hsmall : n + s.size ≤ 9223372036854775807 := by simp only [maxLen] at h63; omega
  have hr := run_append_grow_string (P := P) w t u ty e i (.int .u8 0) ht hu hi hz b n cap olds (by rw [hsize, Nat.mul_one]; exact hlo) holds s (by omega) (by omega) (by rw [hby]; exact growslice_fits (by omega) (by omega))
  have hge := grownCap_ge w (n + s.size) cap e
  have hcm : grownCap w (n + s.size) cap e ≤ maxLen := grownCap_le_maxLen w (n + s.size) cap e h63
  have hlen : (olds ++ strCells s).length = (n + s.size) * 1 := by rw [List.length_append, hlo, strCells_length, Nat.mul_one]
  refine ⟨_, _, hr, ⟨hlen, .inr ⟨w.heap.size, _, _, rfl, Nat.le_refl _, Go.heap_alloc_new w.drew _, hge, hcm, ?_, ?_⟩⟩, ⟨rfl, rfl, rfl, by simp, fun k hk _ => Go.heap_alloc_old w.drew _ hk⟩⟩
  · simp only [Array.size_append, List.size_toArray, size_zeroCells, hz1, hlo, strCells_length]
    omega
  · simp only [Array.toList_append, List.append_assoc]
    rw [← List.append_assoc, ← hlen]
    exact List.take_left

theorem wpList_append_grows_str (w : World) {ops : Array Oper} {rest : List Oper} {o : Oper} {a : Act} {Q : Exit → Act → World → Prop} (hgd : o.guard = none) (sl x : Operand) (t u : TypeId)
    (ho : o.op = .call { callee := .builtin .append, args := #[sl, x], argTypes := #[t, u] })
    (e : TypeId) (i : TypeInfo) (ht : P.underlying t = some (.slice e)) (hu : P.underlying u = some .string) (hi : P.info? e = some i) (hz : i.zero = some (.int .u8 0)) (hsize : i.size = 1) (hby : i.bytes = 1)
    (ao : Option Addr) (n cap : Nat) (olds : List Value) (hs : a.eval sl = .slice ao n cap) (hnone : ao = none → n = 0 ∧ cap = 0) (hlo : olds.length = n) (holds : ∀ b, ao = some b → ∀ j u, olds[j]? = some u → w.cell? (b.add j) = some u)
    (s : ByteArray) (hx : a.eval x = .string s) (hfull : cap < n + s.size) (b1 : n + s.size ≤ maxLen) (b2 : n + s.size ≤ 140737488355328)
    (hK : ∀ v' w', w'.ownsRow w.heap.size e 1 v' (n + s.size) (olds ++ strCells s) → w.grownBy w' none → wpList P ops Q rest (a.put o.dst v') w') :
    wpList P ops Q (o :: rest) a w := by
  refine wpList_plain hgd fun K hK' => ?_
  cases ao with
  | some b =>
    obtain ⟨v', w', hrun, r1, r2⟩ := run_append_str_grows (P := P) w t u o.type e i ht hu hi hz hsize hby b n cap olds hlo (holds b rfl) s hfull b1 b2
    unfold Oper.wp execOp
    simp only [ho, resolve, invoke, builtin, Sem.run_bind, Sem.run_pure, Result.andThen_ok, List.map_toArray, List.map_cons, List.map_nil, hs, hx, hrun]
    exact hK' _ _ (hK v' w' r1 r2)
  | none =>
    obtain ⟨rfl, rfl⟩ := hnone rfl
    obtain rfl : olds = [] := List.eq_nil_of_length_eq_zero hlo
    obtain ⟨v', w', hrun, r1, r2, _⟩ := run_append_own_string (P := P) w w.heap.size t u o.type e i ht hu hi hz hsize hby (.slice none 0 0) 0 [] (World.ownsRow_nil w _ e 1) s b1 b2 (Nat.le_refl _)
    unfold Oper.wp execOp
    simp only [ho, resolve, invoke, builtin, Sem.run_bind, Sem.run_pure, Result.andThen_ok, List.map_toArray, List.map_cons, List.map_nil, hs, hx, hrun]
    exact hK' _ _ (hK v' w' r1 r2)
end
end Go.Proofs.Qxb6605555aDoor
