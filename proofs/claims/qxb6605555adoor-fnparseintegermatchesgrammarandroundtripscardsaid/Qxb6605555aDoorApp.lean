import Derived.Test.Qxb6605555aDoorAppR
import Derived.Test.Qxb6605555aDoorGrow
import Derived.WalkKit
import Derived.Below
import Derived.Deep.CutRange
import Derived.Deep.LoopGhost
import Derived.Deep.RegionWith
namespace Go.Proofs.Qxb6605555aDoor
open Go.RowKit

theorem own_base {w : World} {B B' : Nat} {v : Value} {n : Nat} {xs : List Value} (h : w.ownsRow B 5 1 v n xs) (hB : B' ≤ B) : w.ownsRow B' 5 1 v n xs := by
  obtain ⟨q1, q2⟩ := h
  refine ⟨q1, ?_⟩
  rcases q2 with q2 | ⟨g, cp, cur, e1, e2, r⟩
  · exact .inl q2
  · exact .inr ⟨g, cp, cur, e1, by omega, r⟩

/-- Behind the first append of one element to a slice without room. -/
theorem first_app {w w1 : World} {c0 c1 : Value} {o : Obj} {v : Value} {k : Nat} {cs : List Value}
    (hown : w1.ownsRow (w.heap.size + 1 + 1) 5 1 v k cs) (hg : ((w.alloc (.cells #[c0, c1] 37)).alloc o).grownBy w1 none) : AppW w.heap.size w.heap.size c0 c1 w v k cs w1 := by
  have s1 : (w.alloc (.cells #[c0, c1] 37)).heap.size = w.heap.size + 1 := by simp
  have s2 : ((w.alloc (.cells #[c0, c1] 37)).alloc o).heap.size = w.heap.size + 2 := by simp
  have hgs := hg.size
  refine ⟨own_base hown (by omega), ?_, ?_, by omega⟩
  · rw [hg.block _ (by omega) (by simp), Below.heap_alloc _ _ _ (by omega)]; show (w.heap.push _)[w.heap.size]? = _; simp
  · exact (((Below.refl _ _).alloc (Nat.le_refl _) _).alloc (by omega) _).grown hg (by omega) (fun q e => by cases e)

/-- Behind AppendUint at a slice without room. -/
theorem first_uint {w w1 : World} {c0 c1 : Value} {n : Nat} {xs : List Value} {T : List UInt8} {e : Ending}
    (h : GrowEnd n xs T (w.alloc (.cells #[c0, c1] 37)) e w1) : ∃ v', e = .returned v' ∧ AppW w.heap.size w.heap.size c0 c1 w v' (n + T.length) (xs ++ Lib.byteCells T) w1 := by
  have s1 : (w.alloc (.cells #[c0, c1] 37)).heap.size = w.heap.size + 1 := by simp
  obtain ⟨v', rfl, hown⟩ := h.ex
  have hb := h.bel
  refine ⟨v', rfl, own_base hown (by omega), ?_, ((Below.refl _ _).alloc (Nat.le_refl _) _).trans (hb.mono (by omega)), by have := hb.size; omega⟩
  rw [hb.block _ (by omega)]; show (w.heap.push _)[w.heap.size]? = _; simp

theorem one_cell (w : World) (v : Value) (t : TypeId) (g : Nat) (hg : w.heap.size = g) : ∀ j u, [v][j]? = some u → (w.alloc (.cells #[v] t)).cell? ((⟨g, 0, none⟩ : Addr).add j) = some u := by
  subst hg
  intro j u hj
  match j, hj with
  | 0, hj => simp at hj; subst hj; simp [Addr.add]

set_option maxRecDepth 100000 in
set_option maxHeartbeats 2000000 in
/-- appendText of 0. -/
theorem apptext_zero (n cap : Nat) (ao : Option Addr) (neg : Bool) (la : Option Addr) (lc : Nat) (xs : List Value) (w : World) (hfull : Full w ao n cap xs) (hlim : n + 1 ≤ 140737488355328) :
    Calls Tryd.prog 19 #[.agg #[.bool neg, .slice la 0 lc], .slice ao n cap] w (GrowEnd n xs [48] w) := by
  have HFu := Lib.hid (hfull.below ((((Below.refl _ w).alloc (Nat.le_refl _) (.cells #[.bool neg, .slice la 0 lc] 37)).alloc (by simp) (.cells #[.int .u8 48] 5))))
  have hcap := hfull.cap
  clear hfull
  obtain ⟨i0, hi, hz0, hz1, hz2⟩ := info_parts Tryd.info5'
  go_enter Tryd.func19, Tryd.ntmps19
  go_wp2_with (at_builtin; refine wpList_append_grows _ rfl _ _ 22 rfl 5 i0 (.int .u8 0) 1 1 Tryd.underlying22 hi hz0 hz1 hz2 rfl (by decide) ao n cap xs rfl HFu.out.none (by rw [Nat.mul_one]; exact HFu.out.len) HFu.out.cell ⟨w.heap.size + 1, 0, none⟩ 1 1 [.int .u8 48] rfl rfl (one_cell _ _ _ _ (by simp)) ?c2 ?c3 ?c4 ?c5 ?_)
  case c2 => intro u hu; simp at hu; subst hu; rfl
  case c3 => omega
  case c4 => unfold maxLen; omega
  case c5 => omega
  intro v' w1 hown' hgrow
  have HE := Lib.hid (first_app hown' hgrow)
  clear hown' hgrow
  go_wp2
  go_ret
  exact ⟨⟨v', rfl, HE.out.own⟩, HE.out.bel⟩

theorem arr_new (w : World) (c : Array Value) (h : c.size = 18) : ∃ cur : Array Value, (w.alloc (.cells c 42)).heap[w.heap.size]? = some (.cells cur 42 (0, 0)) ∧ cur.size = 18 :=
  ⟨c, by show (w.heap.push _)[w.heap.size]? = _; simp, h⟩

/-- The minus, where there is one. -/
def minusT (neg : Bool) : List UInt8 := if neg then [45] else []

/-- Behind the test of the sign: the minus is written; or nothing is. -/
def PreW (n : Nat) (ao : Option Addr) (cap : Nat) (xs : List Value) (neg : Bool) (c1 : Value) (w : World) (t : Value) (wr : World) : Prop :=
  (neg = true ∧ ∃ (a : Option Addr) (cap : Nat), t = .slice a (n + 1) cap ∧ AppW w.heap.size w.heap.size (.bool neg) c1 w t (n + 1) (xs ++ [.int .u8 45]) wr) ∨
    (neg = false ∧ t = .slice ao n cap ∧ w.alloc (.cells #[.bool neg, c1] 37) = wr)

set_option maxRecDepth 100000 in
set_option maxHeartbeats 8000000 in
/-- appendText of L limbs, L not 0. -/
theorem apptext_pos (n cap L lb lo lc : Nat) (ao : Option Addr) (neg : Bool) (f : Nat → Nat) (xs : List Value) (w : World) (hfull : Full w ao n cap xs) (hlim : n + 1 + 18 * L + 20 ≤ 140737488355328)
    (hL : 0 < L) (hL2 : L ≤ 1048577) (hlb : lb < w.heap.size) (hc : ∀ j, j < L → w.cell? ⟨lb, lo + j, none⟩ = some (.int .u64 (f j))) (hf : ∀ j, j < L → f j < 1000000000000000000)
    (htab : Lib.TabBelow Tryd.prog w.heap.size w Tryd.powName .u64 Lib.pow10Tab) :
    Calls Tryd.prog 19 #[.agg #[.bool neg, .slice (some ⟨lb, lo, none⟩) L lc], .slice ao n cap] w (GrowEnd n xs (minusT neg ++ bigText f L) w) := by
  have HF1 := Lib.hid (hfull.below ((Below.refl _ w).alloc (Nat.le_refl _) (.cells #[.bool neg, .slice (some ⟨lb, lo, none⟩) L lc] 37)))
  have HF2 := Lib.hid (hfull.below (((Below.refl _ w).alloc (Nat.le_refl _) (.cells #[.bool neg, .slice (some ⟨lb, lo, none⟩) L lc] 37)).alloc (by simp) (.cells #[.int .u8 45] 5)))
  have hcap := hfull.cap
  have HC := Lib.hid hc
  have HT := Lib.hid htab
  have HF := Lib.hid hf
  have hbL : ((L : Int) == 0) = false := beq_eq_false_iff_ne.2 (by omega)
  clear hfull hc htab hf
  obtain ⟨i0, hi, hz0, hz1, hz2⟩ := info_parts Tryd.info5'
  go_enter Tryd.func19, Tryd.ntmps19
  go_upto_if 17 with (fail)
  go_cut [1] from 9 (fun t wr => PreW n ao cap xs neg (.slice (some ⟨lb, lo, none⟩) L lc) w t wr)
  case first =>
    cases neg with
    | false =>
      go_wp2
      go_meet
      case rel => exact .inr ⟨rfl, rfl, rfl⟩
    | true =>
      go_wp2_with (at_builtin; refine wpList_append_grows _ rfl _ _ 22 rfl 5 i0 (.int .u8 0) 1 1 Tryd.underlying22 hi hz0 hz1 hz2 rfl (by decide) ao n cap xs rfl HF2.out.none (by rw [Nat.mul_one]; exact HF2.out.len) HF2.out.cell ⟨w.heap.size + 1, 0, none⟩ 1 1 [.int .u8 45] rfl rfl (one_cell _ _ _ _ (by simp)) ?c2 ?c3 ?c4 ?c5 ?_)
      case c2 => first | rfl | (intro u hu; simp at hu; subst hu; rfl)
      case c3 => omega
      case c4 => unfold maxLen; omega
      case c5 => omega
      intro v' w1 hown' hgrow
      obtain ⟨a', cap', hv⟩ := own_slice hown'
      have HE := Lib.hid (first_app hown' hgrow)
      rw [hv] at HE ⊢
      clear hown' hgrow hv
      go_wp2
      go_meet
      case rel => exact .inl ⟨rfl, a', cap', rfl, HE.out⟩
  case rest =>
    have hml : (minusT neg).length ≤ 1 := by cases neg <;> simp [minusT]
    have hc1 : wc.cell? ⟨w.heap.size, 1, none⟩ = some (.slice (some ⟨lb, lo, none⟩) L lc) := by
      rcases hcut with ⟨_, a, cap, _, hW⟩ | ⟨_, _, hw⟩
      · exact hW.cell1
      · rw [← hw]; simp
    have hbw : Below w.heap.size w wc := by
      rcases hcut with ⟨_, a, cap, _, hW⟩ | ⟨_, _, hw⟩
      · exact hW.bel
      · rw [← hw]; exact (Below.refl _ _).alloc (Nat.le_refl _) _
    have hcl : wc.cell? ⟨lb, lo + (L - 1), none⟩ = some (.int .u64 (f (L - 1))) := (hbw.cell (p := ⟨lb, lo + (L - 1), none⟩) hlb).trans (HC.out (L - 1) (by omega))
    have HB := Lib.hid hbw
    have HCut := Lib.hid hcut
    clear hcut hbw
    go_upto_region 6 with (fail)
    go_cut [1] from 9 (fun t wr => ∃ (a : Option Addr) (cap : Nat), t = .slice a (n + (minusT neg).length + (Lib.decDigits (f (L - 1))).length) cap ∧ AppW w.heap.size w.heap.size (.bool neg) (.slice (some ⟨lb, lo, none⟩) L lc) w t (n + (minusT neg).length + (Lib.decDigits (f (L - 1))).length) (xs ++ Lib.byteCells (minusT neg) ++ Lib.byteCells (Lib.decDigits (f (L - 1)))) wr)
    case first =>
      rcases HCut.out with ⟨hneg, a, cp, ht, hW⟩ | ⟨hneg, ht, hw⟩
      · subst hneg ht
        have HW := Lib.hid hW
        clear hW HCut
        go_wp2_with fail
        refine (app22_own w.heap.size (n + 1) (f (L - 1)) (by have := HF.out (L - 1) (by omega); omega) (.slice a (n + 1) cp) (xs ++ [.int .u8 45]) wc HW.out.own HW.out.size (by omega) (HT.out.on HW.out.bel).here).mono ?_
        rintro e w1 hE
        obtain ⟨v', rfl, hW2⟩ := HW.out.uint hE
        obtain ⟨a', cap', hv⟩ := own_slice hW2.own
        rw [hv] at hW2 ⊢
        have HW2 := Lib.hid hW2
        clear hW2 hE hv HW hc1 hcl
        go_wp2
        go_meet
        case rel => exact ⟨a', cap', rfl, HW2.out⟩
      · subst hneg ht hw
        clear HCut
        go_wp2_with fail
        refine (app22_grow ao n cap (f (L - 1)) (HF.out (L - 1) (by omega)) xs _ HF1.out (by omega) (HT.out.on HB.out).here).mono ?_
        rintro e w1 hE
        obtain ⟨v', rfl, hW2⟩ := first_uint hE
        obtain ⟨a', cap', hv⟩ := own_slice hW2.own
        rw [hv] at hW2 ⊢
        have HW2 := Lib.hid hW2
        clear hW2 hE hv hc1 hcl
        go_wp2
        go_meet
        case rel => exact ⟨a', cap', rfl, by simpa [minusT, Lib.byteCells] using HW2.out⟩
    case rest =>
      clear HCut HB HF1 HF2 hc1 hcl
      obtain ⟨a', cap', rfl, hW2⟩ := hcut
      obtain ⟨w1, rfl⟩ : ∃ w1, w1 = wc := ⟨_, rfl⟩
      have HW2 := Lib.hid hW2
      have HP : Hid (Lib.decDigits (f (L - 1)) ++ lowText f (L - 1) = bigText f L) := rfl
      have hBt : w.heap.size ≤ w1.heap.size := hW2.size
      have hdl := dec_le18 (f (L - 1)) (HF.out (L - 1) (by omega))
      clear hW2
      have HA : Hid (∃ cur, (w1.alloc (.cells #[.int .u8 0, .int .u8 0, .int .u8 0, .int .u8 0, .int .u8 0, .int .u8 0, .int .u8 0, .int .u8 0, .int .u8 0, .int .u8 0, .int .u8 0, .int .u8 0, .int .u8 0, .int .u8 0, .int .u8 0, .int .u8 0, .int .u8 0, .int .u8 0] 42)).heap[w1.heap.size]? = some (.cells cur 42 (0, 0)) ∧ cur.size = 18) :=
        arr_new w1 _ rfl
      go_wp2
      go_loopg [1, 7] (L - 1) (fun gk t j wr => ∃ (a : Option Addr) (cap : Nat) (T : List UInt8), gk < L ∧ j = .int .i64 ((gk : Int) - 1) ∧ t = .slice a (n + (minusT neg).length + T.length) cap ∧ T.length ≤ 18 * L ∧ Hid (T ++ lowText f gk = bigText f L) ∧
        AppW w.heap.size w.heap.size (.bool neg) (.slice (some ⟨lb, lo, none⟩) L lc) w t (n + (minusT neg).length + T.length) (xs ++ Lib.byteCells (minusT neg) ++ Lib.byteCells T) wr ∧ ∃ cur, wr.heap[w1.heap.size]? = some (.cells cur 42 (0, 0)) ∧ cur.size = 18)
      case atStart => exact ⟨a', cap', Lib.decDigits (f (L - 1)), by omega, by go_num, rfl, by omega, HP, HW2.out.alloc _, HA.out⟩
      case round =>
        clear HA HW2 HP
        obtain ⟨a, cap, T, hgL, rfl, rfl, hTl, HP, hW, hA⟩ := hrel
        cases gk with
        | zero =>
          have HW := Lib.hid hW
          clear hW hA
          go_wp2
          go_ret
          have hT : T = bigText f L := by have := HP.out; simpa [lowText] using this
          subst hT
          refine ⟨⟨_, rfl, ?_⟩, HW.out.bel⟩
          have h := HW.out.own
          rw [List.append_assoc, ← Lib.byteCells_append] at h
          rw [List.length_append, ← Nat.add_assoc]
          exact h
        | succ q =>
          rw [show (((q + 1 : Nat) : Int) - 1) = (q : Int) by omega]
          have hc1 := hW.cell1
          have hcl : wr.cell? ⟨lb, lo + q, none⟩ = some (.int .u64 (f q)) := (hW.bel.cell (p := ⟨lb, lo + q, none⟩) hlb).trans (HC.out q (by omega))
          have hq1 : (q : Int) < (L : Int) := by omega
          have HW := Lib.hid hW
          have HA := Lib.hid hA
          clear hW hA
          go_upto_region 11 with (fail)
          go_cut [8] from 34 to 56 (fun t wq => t = .slice (some ⟨w1.heap.size, 0, none⟩) (Lib.decDigits (f q)).length 18 ∧
            AppW w.heap.size w.heap.size (.bool neg) (.slice (some ⟨lb, lo, none⟩) L lc) w (.slice a (n + (minusT neg).length + T.length) cap) (n + (minusT neg).length + T.length) (xs ++ Lib.byteCells (minusT neg) ++ Lib.byteCells T) wq ∧
            ∃ cur : Array Value, wq.heap[w1.heap.size]? = some (.cells cur 42 (0, 0)) ∧ cur.size = 18 ∧ ∀ (j : Nat) (x : Value), (Lib.byteCells (Lib.decDigits (f q)))[j]? = some x → cur[j]? = some x)
          case first =>
            go_region_with (go_at_call 22; refine (app22_text w1.heap.size (f q) (HF.out q (by omega)) _ ?_ ?_).mono ?_; exact HA.out; exact ((HT.out.on HW.out.bel).on (Below.drew (Below.refl _ _))).here; rintro e w2 ⟨rfl, h1, h2, h3⟩)
            go_wp2_with fail
            go_meet
            case rel =>
              have hE : TextEnd w1.heap.size (f q) wr.drew (.returned (.slice (some ⟨w1.heap.size, 0, none⟩) (Lib.decDigits (f q)).length 18)) w2 := ⟨rfl, h1, h2, h3⟩
              exact ⟨rfl, (HW.out.drewN 1).text HA.out hBt hE, text_arr hE⟩
          case rest =>
            obtain ⟨rfl, hW2, cur, hA1, hA2, hA3⟩ := hcut
            have hd18 := dec_le18 (f q) (HF.out q (by omega))
            have HW2 := Lib.hid hW2
            have HA1 := Lib.hid hA1
            have HA3 := Lib.hid hA3
            clear hW2 hA1 hA3 HW HA hc1 hcl
            go_wp2
            go_loopg [1, 48] (18 - (Lib.decDigits (f q)).length) (fun gi t i wq => ∃ (a : Option Addr) (cap k : Nat), gi + k = 18 - (Lib.decDigits (f q)).length ∧ i = .int .i64 (k : Int) ∧ t = .slice a (n + (minusT neg).length + T.length + k) cap ∧
              AppW w.heap.size w.heap.size (.bool neg) (.slice (some ⟨lb, lo, none⟩) L lc) w t (n + (minusT neg).length + T.length + k) (xs ++ Lib.byteCells (minusT neg) ++ Lib.byteCells T ++ Lib.byteCells (List.replicate k 48)) wq ∧
              wq.heap[w1.heap.size]? = some (.cells cur 42 (0, 0)))
            case atStart => exact ⟨a, cap, 0, by omega, rfl, rfl, by simpa [Lib.byteCells] using HW2.out, HA1.out⟩
            case round =>
              clear HW2 HA1
              obtain ⟨a2, cap2, k, hgk, rfl, rfl, hW3, hA⟩ := hrel
              have HW3 := Lib.hid hW3
              have HA1 := Lib.hid hA
              have hsz := hW3.size
              clear hW3 hA
              cases gk with
              | succ gi =>
                have hklt : (k : Int) < 18 - ((Lib.decDigits (f q)).length : Int) := by omega
                go_wp2_with (at_builtin; refine wpList_append_own _ rfl _ _ 22 rfl w.heap.size 5 i0 (.int .u8 0) 1 1 Tryd.underlying22 hi hz0 hz1 hz2 rfl (by decide) _ _ _ rfl (HW3.out.own.alloc _) ⟨wr.heap.size, 0, none⟩ 1 1 [.int .u8 48] rfl rfl (one_cell _ _ _ _ (by simp)) ?d2 ?d3 ?d4 ?d5 ?_)
                case d2 => intro u hu; simp at hu; subst hu; rfl
                case d3 => unfold maxLen; omega
                case d4 => omega
                case d5 => simp; omega
                intro v3 w3 hown' hgrow _
                obtain ⟨a3, cap3, hv⟩ := own_slice hown'
                have HE := Lib.hid (HW3.out.app hown' hgrow)
                have HX := Lib.hid (HW3.out.arr HA1.out hgrow)
                rw [hv] at HE ⊢
                clear hown' hgrow hv HW3 HA1
                go_wp2
                go_roundg gi
                case measure => omega
                case rel => exact ⟨a3, cap3, k + 1, by omega, by go_num, rfl, by rw [zeros_cells]; simp only [List.append_assoc]; exact HE.out, HX.out⟩
              | zero =>
                have hk : k = 18 - (Lib.decDigits (f q)).length := by omega
                have HK := Lib.hid hk
                have hkge : ¬ (k : Int) < 18 - ((Lib.decDigits (f q)).length : Int) := by omega
                have hcl : ∀ j u, (Lib.byteCells (Lib.decDigits (f q)))[j]? = some u → wr.cell? ((⟨w1.heap.size, 0, none⟩ : Addr).add j) = some u := fun j u hj => by
                  have := HA3.out j u hj
                  rw [Lib.add_plain, Nat.zero_add]
                  simp [World.cell?, HA1.out, this]
                have HCL := Lib.hid hcl
                have hkd : k + (Lib.decDigits (f q)).length ≤ 18 := by omega
                clear hcl hk hgk
                go_wp2_with (at_builtin; refine wpList_append_own _ rfl _ _ 22 rfl w.heap.size 5 i0 (.int .u8 0) 1 1 Tryd.underlying22 hi hz0 hz1 hz2 rfl (by decide) _ _ _ rfl HW3.out.own ⟨w1.heap.size, 0, none⟩ (Lib.decDigits (f q)).length 18 (Lib.byteCells (Lib.decDigits (f q))) rfl ?f0 HCL.out ?f2 ?f3 ?f4 ?f5 ?_)
                case f0 => simp [Lib.byteCells_length]
                case f2 => intro u' hu'; simp only [Lib.byteCells, List.mem_map] at hu'; obtain ⟨b, _, rfl⟩ := hu'; rfl
                case f3 => unfold maxLen; omega
                case f4 => omega
                intro v3 w3 hown' hgrow _
                obtain ⟨a3, cap3, hv⟩ := own_slice hown'
                have HE := Lib.hid (HW3.out.app0 hown' hgrow)
                have HX := Lib.hid (HW3.out.arr0 HA1.out hgrow)
                rw [hv] at HE ⊢
                have hTT : T ++ pad18 (f q) ++ lowText f q = bigText f L := by rw [← HP.out, lowText, List.append_assoc]
                have hlen : (T ++ pad18 (f q)).length = T.length + k + (Lib.decDigits (f q)).length := by
                  rw [List.length_append, pad18, List.length_append, List.length_replicate, ← HK.out]; omega
                have hle : (T ++ pad18 (f q)).length ≤ 18 * L := by
                  have h1 := bigText_length f L hL HF.out
                  rw [← hTT, List.length_append] at h1
                  omega
                have hcs : xs ++ Lib.byteCells (minusT neg) ++ Lib.byteCells (T ++ pad18 (f q)) = xs ++ Lib.byteCells (minusT neg) ++ Lib.byteCells T ++ Lib.byteCells (List.replicate k 48) ++ Lib.byteCells (Lib.decDigits (f q)) := by
                  rw [pad18, ← HK.out]; simp only [Lib.byteCells_append, List.append_assoc]
                have hnl : n + (minusT neg).length + (T ++ pad18 (f q)).length = n + (minusT neg).length + T.length + k + (Lib.decDigits (f q)).length := by rw [hlen]; omega
                have HG : Hid (AppW w.heap.size w.heap.size (.bool neg) (.slice (some ⟨lb, lo, none⟩) L lc) w (.slice a3 (n + (minusT neg).length + (T ++ pad18 (f q)).length) cap3) (n + (minusT neg).length + (T ++ pad18 (f q)).length) (xs ++ Lib.byteCells (minusT neg) ++ Lib.byteCells (T ++ pad18 (f q))) w3) := by
                  show AppW _ _ _ _ _ _ _ _ _
                  rw [hcs, hnl]; simp only [List.append_assoc]; exact HE.out
                have HN := Lib.hid hnl
                have HTT := Lib.hid hTT
                clear hown' hgrow hv HW3 HA1 HE hcs hnl hlen HCL hTT
                go_wp2
                go_roundg q
                case measure => omega
                case rel => exact ⟨a3, cap3, T ++ pad18 (f q), by omega, rfl, by rw [HN.out], hle, HTT.out, by rw [← HN.out]; exact HG.out, cur, HX.out, hA2⟩
end Go.Proofs.Qxb6605555aDoor
