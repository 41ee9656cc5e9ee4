import Derived.Test.Qxb6605555aDoorShelf
import Derived.WalkKit
import Derived.Below
import Derived.ArgAppend
import Derived.Lib.AppendStr
namespace Go.Proofs.Qxb6605555aDoor
open Go.RowKit

/-! Laws: an append with room, in terms of cells; what a row of stores leaves. -/
section
variable {P : Program}

theorem run_append_room_str (w : World) (t u ty e : TypeId) (i : TypeInfo) (ht : P.underlying t = some (.slice e)) (hu : P.underlying u = some .string) (hi : P.info? e = some i) (hs1 : i.size = 1)
    (b off sLen sCap : Nat) (s : ByteArray) (hroom : sLen + s.size ≤ sCap)
    (hc : ∀ j, j < s.size → (w.cell? ⟨b, off + sLen + j, none⟩).isSome = true) (hf : ∀ j, j < s.size → w.frozen? ⟨b, off + sLen + j, none⟩ = false) :
    (Builtin.append_ #[t, u] ty #[.slice (some ⟨b, off, none⟩) sLen sCap, .string s]).run P w =
      .ok (.slice (some ⟨b, off, none⟩) (sLen + s.size) sCap) (w.setCells b (off + sLen) (Lib.strCells s)) := by
  have hfc := Lib.run_firstCells_string (P := P) w 1 s
  have hst := run_storeCells_cells (P := P) b (off + sLen) (Lib.strCells s) 0 w (by simpa [Lib.strCells_length] using hc) (by simpa [Lib.strCells_length] using hf) (Lib.strCells_oneCell s)
  simp only [Nat.add_zero] at hst
  simp [Builtin.append_, run_underlying ht, run_underlying hu, sizeOf, typeInfo, hi, hs1, Builtin.lenOf, hroom, hfc, Addr.add_lit, hst]

theorem wpList_append_room_str (w : World) {ops : Array Oper} {rest : List Oper} {o : Oper} {a : Act} {Q : Exit → Act → World → Prop} (hgd : o.guard = none) (sl x : Operand) (t u : TypeId)
    (ho : o.op = .call { callee := .builtin .append, args := #[sl, x], argTypes := #[t, u] })
    (e : TypeId) (i : TypeInfo) (ht : P.underlying t = some (.slice e)) (hu : P.underlying u = some .string) (hi : P.info? e = some i) (hs1 : i.size = 1)
    (b off sLen sCap : Nat) (hs : a.eval sl = .slice (some ⟨b, off, none⟩) sLen sCap) (s : ByteArray) (hx : a.eval x = .string s) (hroom : sLen + s.size ≤ sCap)
    (hc : ∀ j, j < s.size → (w.cell? ⟨b, off + sLen + j, none⟩).isSome = true) (hf : ∀ j, j < s.size → w.frozen? ⟨b, off + sLen + j, none⟩ = false)
    (h : wpList P ops Q rest (a.put o.dst (.slice (some ⟨b, off, none⟩) (sLen + s.size) sCap)) (w.setCells b (off + sLen) (Lib.strCells s))) : wpList P ops Q (o :: rest) a w := by
  refine wpList_plain hgd fun K hK => ?_
  have hr := run_append_room_str (P := P) w t u o.type e i ht hu hi hs1 b off sLen sCap s hroom hc hf
  unfold Oper.wp execOp
  simp only [ho, resolve, invoke, builtin, Sem.run_bind, Sem.run_pure, Result.andThen_ok, List.map_toArray, List.map_cons, List.map_nil, hs, hx, hr]
  exact hK _ _ h

theorem wpList_append_room_row (w : World) {ops : Array Oper} {rest : List Oper} {o : Oper} {a : Act} {Q : Exit → Act → World → Prop} (hgd : o.guard = none) (sl x : Operand) (t : TypeId)
    (ho : o.op = .call { callee := .builtin .append, args := #[sl, x], argTypes := #[t, t] })
    (e : TypeId) (i : TypeInfo) (ht : P.underlying t = some (.slice e)) (hi : P.info? e = some i) (hs1 : i.size = 1)
    (b off sLen sCap : Nat) (hs : a.eval sl = .slice (some ⟨b, off, none⟩) sLen sCap) (ad : Addr) (m c : Nat) (news : List Value) (hx : a.eval x = .slice (some ad) m c)
    (hl : news.length = m) (hnews : ∀ j u, news[j]? = some u → w.cell? (ad.add j) = some u) (h1 : ∀ u ∈ news, u.oneCell' = true) (hroom : sLen + m ≤ sCap)
    (hc : ∀ j, j < news.length → (w.cell? ⟨b, off + sLen + j, none⟩).isSome = true) (hf : ∀ j, j < news.length → w.frozen? ⟨b, off + sLen + j, none⟩ = false)
    (h : wpList P ops Q rest (a.put o.dst (.slice (some ⟨b, off, none⟩) (sLen + m) sCap)) (w.setCells b (off + sLen) news)) : wpList P ops Q (o :: rest) a w := by
  refine wpList_plain hgd fun K hK => ?_
  have hr := run_append_room_cells (P := P) w t o.type e i ht hi b off sLen sCap ad m c news (by rw [hs1, Nat.mul_one]; exact hl) hnews h1 hroom (by rw [hs1, Nat.mul_one]; exact hc) (by rw [hs1, Nat.mul_one]; exact hf)
  rw [hs1, Nat.mul_one] at hr
  unfold Oper.wp execOp
  simp only [ho, resolve, invoke, builtin, Sem.run_bind, Sem.run_pure, Result.andThen_ok, List.map_toArray, List.map_cons, List.map_nil, hs, hx, hr]
  exact hK _ _ h
end

theorem setCells_same (b : Nat) (t : TypeId) (fz : Nat × Nat) : ∀ (vs : List Value) (o : Nat) (w : World) (cur : Array Value), w.heap[b]? = some (.cells cur t fz) → ∃ cur', (w.setCells b o vs).heap[b]? = some (.cells cur' t fz) ∧ cur'.size = cur.size
  | [], _, _, cur, h => ⟨cur, h, rfl⟩
  | v :: r, o, w, cur, h => by
    have h1 : (w.setCell ⟨b, o, none⟩ v).heap[b]? = some (.cells (cur.setIfInBounds o v) t fz) := by
      simp [World.setCell, Array.getElem?_modify, h]
    obtain ⟨cur', e1, e2⟩ := setCells_same b t fz r (o + 1) _ _ h1
    exact ⟨cur', e1, by rw [e2]; simp⟩

theorem setCells_grown (b : Nat) : ∀ (vs : List Value) (o : Nat) (w : World), w.grownBy (w.setCells b o vs) (some b)
  | [], _, w => ⟨rfl, rfl, rfl, Nat.le_refl _, fun _ _ _ => rfl⟩
  | v :: r, o, w => by
    have h := setCells_grown b r (o + 1) (w.setCell ⟨b, o, none⟩ v)
    have hs : (w.setCell ⟨b, o, none⟩ v).heap.size = w.heap.size := by simp [World.setCell]
    refine ⟨h.os, h.tape, h.output, by have := h.size; rw [hs] at this; exact this, fun k hk hne => ?_⟩
    have hkb : k ≠ b := fun e => hne (by rw [e])
    exact (h.block k (by omega) hne).trans (Below.heap_setCell w _ _ _ hkb)

/-- How AppendUint ends at text[:0], text an array of 18 bytes in block tb. -/
structure TextEnd (tb u : Nat) (w : World) (e : Ending) (w' : World) : Prop where
  val : e = .returned (.slice (some ⟨tb, 0, none⟩) (Lib.decDigits u).length 18)
  cell : ∀ j x, (Lib.byteCells (Lib.decDigits u))[j]? = some x → w'.cell? ⟨tb, j, none⟩ = some x
  row : ∃ cur, w'.heap[tb]? = some (.cells cur 42 (0, 0)) ∧ cur.size = 18
  kept : w.grownBy w' (some tb)

theorem grown_trans {a b c : World} {tb : Nat} (h : a.grownBy b (some tb)) (k : b.grownBy c (some tb)) : a.grownBy c (some tb) :=
  ⟨k.os.trans h.os, k.tape.trans h.tape, k.output.trans h.output, Nat.le_trans h.size k.size, fun i hi hne => (k.block i (Nat.lt_of_lt_of_le hi h.size) hne).trans (h.block i hi hne)⟩

theorem text_end {tb u : Nat} {w w1 : World} {cur : Array Value} (htb : w1.heap[tb]? = some (.cells cur 42 (0, 0))) (hcur : cur.size = 18) (hlen : (Lib.decDigits u).length ≤ 18) (hg : w.grownBy w1 (some tb)) :
    TextEnd tb u w (.returned (.slice (some ⟨tb, 0, none⟩) (Lib.decDigits u).length 18)) (w1.setCells tb 0 (Lib.byteCells (Lib.decDigits u))) := by
  refine ⟨rfl, fun j x hj => ?_, ?_, grown_trans hg (setCells_grown tb _ _ _)⟩
  · have hl : j < (Lib.byteCells (Lib.decDigits u)).length := (List.getElem?_eq_some_iff.1 hj).1
    have h := World.cell?_setCells_in tb (Lib.byteCells (Lib.decDigits u)) 0 w1 (fun i hi => by
      rw [Lib.byteCells_length] at hi
      rw [Nat.zero_add]
      simp [World.cell?, htb, show i < cur.size by omega]) j hl
    rw [Nat.zero_add] at h
    rw [h, ← hj]
    exact (List.getElem?_eq_getElem hl).symm
  · obtain ⟨cur', e1, e2⟩ := setCells_same tb 42 (0, 0) (Lib.byteCells (Lib.decDigits u)) 0 w1 cur htb
    exact ⟨cur', e1, by omega⟩
end Go.Proofs.Qxb6605555aDoor
