import Derived.Test.Qxb6605555aDoorTxt
import Derived.Test.Qxb6605555aDoorCl
import Derived.Test.Qxb6605555aDoorWf
import Derived.Test.Qxb6605555aDoorBEq
import Derived.WalkKit
import Derived.Below
import Derived.Deep.CutRange
import Derived.Laws.AppendOwnNone
namespace Go.Proofs.Qxb6605555aDoor
open Go.RowKit

/-- The law's end. -/
def LawEnd (w : World) (e : Ending) (w' : World) : Prop := e = .returned (.bool true) ∧ Below w.heap.size w w'

set_option maxRecDepth 100000 in
set_option maxHeartbeats 4000000 in
theorem lawA_short (neg : Bool) (a b : Option Addr) (L n c d : Nat) (w : World) (h1 : L ≤ 9223372036854775807) (h2 : n ≤ 9223372036854775807) (h : 1048576 < n + 18 * L + 1) :
    Calls Tryd.prog 4 #[.bool neg, .slice a L c, .slice b n d] w (LawEnd w) := by
  by_cases k1 : 1048576 < L
  · go_enter Tryd.func4, Tryd.ntmps4
    go_wp2
    go_ret
    exact ⟨rfl, Below.refl _ _⟩
  · by_cases k2 : 1048576 < n
    · go_enter Tryd.func4, Tryd.ntmps4
      go_wp2
      go_ret
      exact ⟨rfl, Below.refl _ _⟩
    · by_cases k3 : 1048576 < L + n
      · go_enter Tryd.func4, Tryd.ntmps4
        go_wp2
        go_ret
        exact ⟨rfl, Below.refl _ _⟩
      · by_cases k4 : 65536 < L
        · go_enter Tryd.func4, Tryd.ntmps4
          go_wp2
          go_ret
          exact ⟨rfl, Below.refl _ _⟩
        · have q1 : (L : Int) ≤ 65536 := by omega
          have q2 : (n : Int) ≤ 1048576 := by omega
          have q3 : (L : Int) + (n : Int) ≤ 1048576 := by omega
          have hI : (1048576 : Int) < (n : Int) + 18 * (L : Int) + 1 := by omega
          clear h k1 k2 k3 k4 h1 h2
          go_enter Tryd.func4, Tryd.ntmps4
          go_wp2
          go_ret
          exact ⟨rfl, Below.refl _ _⟩

/-- While the wanted text is built. -/
structure OwnB (B : Nat) (w : World) (v : Value) (k : Nat) (cs : List Value) (wr : World) : Prop where
  own : wr.ownsRow B 5 1 v k cs
  bel : Below B w wr
  size : B ≤ wr.heap.size

theorem OwnB.app {B : Nat} {w wr w1 : World} {v v' : Value} {k k' : Nat} {cs cs' : List Value} {o : Obj} (h : OwnB B w v k cs wr) (hown : w1.ownsRow B 5 1 v' k' cs') (hg : (wr.alloc o).grownBy w1 v.ownBlock) : OwnB B w v' k' cs' w1 := by
  have hsz : (wr.alloc o).heap.size = wr.heap.size + 1 := by simp
  have hs := h.size
  have hgs := hg.size
  exact ⟨hown, (h.bel.alloc h.size _).grown hg (by omega) (fun q e => (h.own.lt q e).1), by omega⟩
theorem OwnB.app0 {B : Nat} {w wr w1 : World} {v v' : Value} {k k' : Nat} {cs cs' : List Value} (h : OwnB B w v k cs wr) (hown : w1.ownsRow B 5 1 v' k' cs') (hg : wr.grownBy w1 v.ownBlock) : OwnB B w v' k' cs' w1 := by
  have hs := h.size
  have hgs := hg.size
  exact ⟨hown, h.bel.grown hg h.size (fun q e => (h.own.lt q e).1), by omega⟩
theorem OwnB.below {B : Nat} {w wr w1 : World} {v : Value} {k : Nat} {cs : List Value} (h : OwnB B w v k cs wr) (hb : Below wr.heap.size wr w1) : OwnB B w v k cs w1 := by
  have hs := h.size
  refine ⟨?_, h.bel.trans (hb.mono h.size), by have := hb.size; omega⟩
  obtain ⟨q1, q2⟩ := h.own
  refine ⟨q1, ?_⟩
  rcases q2 with q2 | ⟨g, cp, cur, e1, e2, e3, r⟩
  · exact .inl q2
  · exact .inr ⟨g, cp, cur, e1, e2, by rw [hb.block g (Array.getElem?_eq_some_iff.1 e3).1]; exact e3, r⟩

/-- The cells of an owned row, wherever it lies. -/
theorem own_cells {B : Nat} {w : World} {v : Value} {k : Nat} {cs : List Value} (h : w.ownsRow B 5 1 v k cs) : ∃ (a : Option Addr) (cap : Nat), v = .slice a k cap ∧ (0 < k → ∃ g, a = some ⟨g, 0, none⟩ ∧ ∀ j u, cs[j]? = some u → w.cell? ⟨g, 0 + j, none⟩ = some u) := by
  rcases h.2 with ⟨hv, hn⟩ | ⟨g, cap, cur, hv, hg, hh, hnc, hcm, hsz, hx⟩
  · subst hn; exact ⟨_, _, hv, fun q => by omega⟩
  · refine ⟨_, _, hv, fun _ => ⟨g, rfl, fun j u hj => ?_⟩⟩
    rw [← hx, List.getElem?_take] at hj
    split at hj
    · rw [Nat.zero_add]
      simp only [World.cell?, hh]
      simpa using hj
    · cases hj

theorem TabUp {B B' : Nat} {w : World} (h : Lib.TabBelow Tryd.prog B w Tryd.powName .u64 Lib.pow10Tab) (hB : B ≤ B') : Lib.TabBelow Tryd.prog B' w Tryd.powName .u64 Lib.pow10Tab := fun w' hb => h w' (hb.mono hB)

/-- The number in cell j. -/
def numAt (cs : List Value) (j : Nat) : Int := match cs[j]? with | some (.int _ q) => q | _ => 0
def AllU8 (cs : List Value) : Prop := ∀ u ∈ cs, ∃ q, u = Value.int .u8 q
theorem numAt_cell {cs : List Value} (h : AllU8 cs) {j : Nat} (hj : j < cs.length) : cs[j]? = some (.int .u8 (numAt cs j)) := by
  obtain ⟨q, hq⟩ := h cs[j] (List.getElem_mem hj)
  unfold numAt
  rw [List.getElem?_eq_getElem hj, hq]
theorem AllU8.app {a b : List Value} (h : AllU8 a) (k : AllU8 b) : AllU8 (a ++ b) := fun u hu => by
  rcases List.mem_append.1 hu with q | q
  · exact h u q
  · exact k u q
theorem AllU8.bytes (T : List UInt8) : AllU8 (Lib.byteCells T) := fun u hu => by
  simp only [Lib.byteCells, List.mem_map] at hu
  obtain ⟨b, _, rfl⟩ := hu
  exact ⟨_, rfl⟩
theorem AllU8.range (n : Nat) (z : Nat → Int) : AllU8 ((List.range n).map fun j => Value.int .u8 (z j)) := fun u hu => by
  simp only [List.mem_map] at hu
  obtain ⟨j, _, rfl⟩ := hu
  exact ⟨_, rfl⟩

theorem cl_full {n : Nat} {z : Nat → Int} {w' : World} {a : Option Addr} {c : Nat} (h1 : c ≤ n) (h2 : a = none → n = 0 ∧ c = 0)
    (h3 : 0 < n → ∃ g, a = some ⟨g, 0, none⟩ ∧ ∀ j, j < n → w'.cell? ⟨g, 0 + j, none⟩ = some (.int .u8 (z j))) : Full w' a n c ((List.range n).map fun j => Value.int .u8 (z j)) :=
  ⟨h2, h1, by simp, fun b e j u hj => by
    have hjl := (List.getElem?_eq_some_iff.1 hj).1
    simp at hjl
    obtain ⟨g, e', hc⟩ := h3 (by omega)
    rw [e] at e'
    cases e'
    rw [Lib.add_plain, hc j hjl]
    simpa [hjl] using hj⟩

set_option maxHeartbeats 1000000 in
theorem zzb13 (neg : Bool) (a b : Option Addr) (L n c d : Nat) (w : World) (k1 : (L : Int) ≤ 65536) (k2 : (n : Int) ≤ 1048576) (k3 : (L : Int) + (n : Int) ≤ 1048576) :
    Calls Tryd.prog 13 #[.bool neg, .slice a L c, .slice b n d] w fun e w' => e = .returned (.bool true) ∧ w = w' := by
  go_enter Tryd.func13, Tryd.ntmps13
  go_wp2
  go_ret
  exact ⟨rfl, rfl⟩

/-- What holds behind appendText. -/
structure MidW (neg : Bool) (L n : Nat) (f : Nat → Nat) (xs : List Value) (la : Option Addr) (sa : Option Addr) (sc : Nat) (oa : Option Addr) (w wm : World) : Prop where
  bel : Below w.heap.size w wm
  limbs : 0 < L → ∃ lb lo, la = some ⟨lb, lo, none⟩ ∧ lb < wm.heap.size ∧ ∀ j, j < L → wm.cell? ⟨lb, lo + j, none⟩ = some (.int .u64 (f j))
  src : Full wm sa n sc xs
  out : 0 < n + (fullText neg f L).length → ∃ g, oa = some ⟨g, 0, none⟩ ∧ ∀ j u, (xs ++ Lib.byteCells (fullText neg f L))[j]? = some u → wm.cell? ⟨g, 0 + j, none⟩ = some u

set_option maxRecDepth 100000 in
set_option maxHeartbeats 8000000 in
theorem lawA_go (neg : Bool) (a b : Option Addr) (L n c d : Nat) (y z : Nat → Int) (w : World) (hlen : (n : Int) + 18 * (L : Int) + 1 ≤ 1048576) (hy0 : ∀ j, j < L → 0 ≤ y j)
    (ha : Sl w .u64 a L c y) (hb : Sl w .u8 b n d z) (htab : Lib.TabIs Tryd.prog w Tryd.powName .u64 Lib.pow10Tab) :
    Calls Tryd.prog 4 #[.bool neg, .slice a L c, .slice b n d] w (LawEnd w) := by
  have k1 : (L : Int) ≤ 65536 := by omega
  have k2 : (n : Int) ≤ 1048576 := by omega
  have k3 : (L : Int) + (n : Int) ≤ 1048576 := by omega
  have HA := Lib.hid ha
  have HB := Lib.hid hb
  have HT := Lib.hid (Lib.tabBelow_of_tabIs htab)
  have HY := Lib.hid hy0
  have HN : Hid (n + 18 * L + 1 ≤ 1048576) := by show _ ≤ _; omega
  have hI : decide ((1048576 : Int) < (n : Int) + 18 * (L : Int) + 1) = false := decide_eq_false (by omega)
  clear ha hb htab hy0 hlen
  go_enter Tryd.func4, Tryd.ntmps4
  go_wp2_with fail
  refine (zzb13 neg a b L n c d w k1 k2 k3).mono ?_
  rintro e w' ⟨rfl, rfl⟩
  go_upto_region 5 with (fail)
  go_cut [29] from 9 (fun t wr => t = .bool false ∧ w = wr)
  case first =>
    go_wp2_with fail
    go_meet
    case rel => exact ⟨rfl, rfl⟩
  case rest =>
    obtain ⟨rfl, rfl⟩ := hcut
    clear k1 k2 k3 hI
    go_wp2_with fail
    refine (wf_any a L c y w (by have := HN.out; omega) HA.out.cell).mono ?_
    rintro e w' ⟨Bv, rfl, hBv, hw⟩
    obtain rfl := hw.symm
    cases Bv with
    | false =>
      clear hBv
      go_wp2
      go_ret
      exact ⟨rfl, Below.refl _ _⟩
    | true =>
      have hwf := hBv.1 rfl
      obtain ⟨f, hf⟩ : ∃ f : Nat → Nat, f = fun j => (y j).toNat := ⟨_, rfl⟩
      have hfy : ∀ j, j < L → (f j : Int) = y j := fun j hj => by rw [hf]; exact Int.toNat_of_nonneg (HY.out j hj)
      have HF : Hid (∀ j, j < L → f j < 1000000000000000000) := fun j hj => by have := hwf.1 j hj; have := hfy j hj; omega
      have HTop : Hid (0 < L → ¬ f (L - 1) = 0) := fun hL => by have := hwf.2 hL; have := hfy (L - 1) (by omega); omega
      have HFY := Lib.hid hfy
      clear hf hfy hwf hBv hw
      go_wp2_with fail
      refine (clonel_gen a L c y w (by have := HN.out; omega) HA.out).mono ?_
      rintro e w1 ⟨⟨la, lc, rfl, _, _, hlcell⟩, hbel1⟩
      have HL1 : Hid (0 < L → ∃ lb lo, la = some ⟨lb, lo, none⟩ ∧ lb < w1.heap.size ∧ ∀ j, j < L → w1.cell? ⟨lb, lo + j, none⟩ = some (.int .u64 (f j))) := fun hL => by
        obtain ⟨lb, e, _, hlt, hcl⟩ := hlcell hL
        exact ⟨lb, 0, e, hlt, fun j hj => by rw [HFY.out j hj]; exact hcl j hj⟩
      have HB1 := Lib.hid hbel1
      clear hlcell hbel1
      go_wp2_with fail
      refine (clone_gen b n d z w1 (by have := HN.out; omega) (HB.out.below HB1.out)).mono ?_
      rintro e w2 ⟨⟨sa, sc, rfl, hsc, hsn, hscell⟩, hbel2⟩
      obtain ⟨xs, hxs⟩ : ∃ xs, xs = (List.range n).map fun j => Value.int .u8 (z j) := ⟨_, rfl⟩
      have HS2 : Hid (Full w2 sa n sc xs) := by
        show Full w2 sa n sc xs
        rw [hxs]
        exact cl_full hsc hsn (fun h => by obtain ⟨g, e, _, _, hcl⟩ := hscell h; exact ⟨g, e, hcl⟩)
      have HU : Hid (AllU8 xs) := by show AllU8 xs; rw [hxs]; exact AllU8.range n z
      have HB2 : Hid (Below w.heap.size w w2) := HB1.out.trans (hbel2.mono HB1.out.size)
      have HL2 : Hid (0 < L → ∃ lb lo, la = some ⟨lb, lo, none⟩ ∧ lb < w2.heap.size ∧ ∀ j, j < L → w2.cell? ⟨lb, lo + j, none⟩ = some (.int .u64 (f j))) := fun hL => by
        obtain ⟨lb, lo, e, hlt, hcl⟩ := HL1.out hL
        exact ⟨lb, lo, e, by have := hbel2.size; omega, fun j hj => (hbel2.cell (p := ⟨lb, lo + j, none⟩) hlt).trans (hcl j hj)⟩
      clear hscell hsn hsc hbel2 hxs HL1 HB1
      go_wp2_with fail
      refine (zzapp n sc L lc sa neg la f xs w2 HS2.out (by have := HN.out; omega) (by have := HN.out; omega) HL2.out HF.out (TabUp (HT.out.on HB2.out) HB2.out.size)).mono ?_
      rintro e w3 ⟨⟨ov, rfl, hown⟩, hbel3⟩
      obtain ⟨oa, oc, rfl, hocell⟩ := own_cells hown
      have HM : Hid (MidW neg L n f xs la sa sc oa w w3) := ⟨HB2.out.trans (hbel3.mono HB2.out.size),
        fun hL => by
          obtain ⟨lb, lo, e, hlt, hcl⟩ := HL2.out hL
          exact ⟨lb, lo, e, by have := hbel3.size; omega, fun j hj => (hbel3.cell (p := ⟨lb, lo + j, none⟩) hlt).trans (hcl j hj)⟩,
        HS2.out.below hbel3, hocell⟩
      clear hocell hbel3 hown HL2 HS2 HB2
      obtain ⟨i0, hi, hz0, hz1, hz2⟩ := info_parts Tryd.info5'
      have b1 : (n : Int) ≤ 1048576 := by have := HN.out; omega
      have b2 : (L : Int) ≤ 65536 := by have := HN.out; omega
      go_upto_region 13 with (at_make; refine wpList_make_own _ rfl _ _ 22 rfl w3.heap.size 5 i0 (.int .u8 0) 1 Tryd.underlying22 hi hz0 hz1 .i64 .i64 _ (n + 1 + 18 * L + 1) rfl rfl ?m1 ?m2 ?m3 ?m4 ?_)
      case m1 => omega
      case m2 => rw [hz2]; have := HN.out; omega
      case m3 => unfold maxLen; have := HN.out; omega
      case m4 => omega
      intro w4 hown4 hg4
      obtain ⟨C, hC⟩ : ∃ C, n + 1 + 18 * L + 1 = C := ⟨_, rfl⟩
      rw [hC] at hown4 ⊢
      clear hC
      have HO4 : Hid (OwnB w3.heap.size w3 (.slice (some ⟨w3.heap.size, 0, none⟩) 0 C) 0 [] w4) := ⟨hown4, ⟨hg4.os, hg4.tape, hg4.output, hg4.size, fun k hk => hg4.block k hk (by simp)⟩, hg4.size⟩
      clear hown4 hg4 b1 b2
      go_upto_region 13 with (fail)
      go_cut [8] from 9 (fun t wr => ∃ (a : Option Addr) (cap : Nat), t = .slice a n cap ∧ OwnB w3.heap.size w3 t n xs wr)
      case first =>
        have hsrc := HM.out.src.below HO4.out.bel
        have hn0 : sa = none → n = 0 := fun e => (hsrc.none e).1
        cases sa with
        | none =>
          have e0 := hn0 rfl
          have ec := (hsrc.none rfl).2
          have ex : xs = [] := List.eq_nil_of_length_eq_zero (by rw [hsrc.len, e0])
          have E0 := Lib.hid e0
          have EC := Lib.hid ec
          have HE : Hid (OwnB w3.heap.size w3 (.slice (some ⟨w3.heap.size, 0, none⟩) 0 C) n xs w4) := by
            show OwnB _ _ _ _ _ _
            rw [e0, ex]; exact HO4.out
          clear hsrc hn0 e0 ec ex
          go_wp2_with (at_builtin; refine wpList_append_own_none rfl _ _ 22 rfl w3.heap.size 5 i0 1 Tryd.underlying22 hi _ _ _ rfl HO4.out.own ?hx ?_)
          case hx => show Value.slice none n sc = _; rw [E0.out, EC.out]
          go_wp2
          go_meet
          case rel => exact ⟨some ⟨w3.heap.size, 0, none⟩, C, by rw [E0.out], HE.out⟩
        | some x =>
          have hsl := hsrc.len
          have HX : Hid (∀ j u, xs[j]? = some u → w4.cell? (x.add j) = some u) := hsrc.cell x rfl
          clear hsrc hn0
          go_wp2_with (at_builtin; refine wpList_append_own _ rfl _ _ 22 rfl w3.heap.size 5 i0 (.int .u8 0) 1 1 Tryd.underlying22 hi hz0 hz1 hz2 rfl (by decide) _ _ _ rfl HO4.out.own x n sc xs rfl ?p0 HX.out ?p2 ?p3 ?p4 ?p5 ?_)
          case p0 => first | omega | (rw [Nat.mul_one]; exact hsl)
          case p2 => intro u hu; obtain ⟨q, rfl⟩ := HU.out u hu; rfl
          case p3 => unfold maxLen; have := HN.out; omega
          case p4 => have := HN.out; omega
          case p5 => exact HO4.out.size
          intro v' w5 hown' hgrow _
          try simp only [Nat.zero_add, List.nil_append] at hown'
          obtain ⟨a', cap', hv⟩ := own_slice hown'
          have HE := Lib.hid (HO4.out.app0 hown' hgrow)
          rw [hv] at HE ⊢
          clear hown' hgrow hv
          go_wp2
          go_meet
          case rel => exact ⟨a', cap', rfl, HE.out⟩
      case rest =>
        obtain ⟨a1, cap1, rfl, hO5⟩ := hcut
        have HO5 := Lib.hid hO5
        clear hO5 HO4
        go_upto_region 14 with (fail)
        go_cut [58] from 9 (fun t wr => t = .bool (neg && decide (0 < L)) ∧ OwnB w3.heap.size w3 (.slice a1 n cap1) n xs wr)
        case first =>
          cases neg with
          | false =>
            go_wp2
            go_meet
            case rel => exact ⟨rfl, HO5.out⟩
          | true =>
            by_cases hL : 0 < L
            · go_wp2
              go_meet
              case rel => exact ⟨by simp [hL], HO5.out⟩
            · go_wp2
              go_meet
              case rel => exact ⟨by simp [hL], HO5.out⟩
        case rest =>
          obtain ⟨rfl, hO6⟩ := hcut
          have HO6 := Lib.hid hO6
          have HE0 := Lib.hid (fullText_eq neg f L)
          clear hO6 HO5
          generalize (neg && decide (0 < L)) = mb at *
          go_upto_if 58 with (fail)
          go_cut [8] from 9 (fun t wr => ∃ (a : Option Addr) (cap : Nat), t = .slice a (n + (minusT mb).length) cap ∧ OwnB w3.heap.size w3 t (n + (minusT mb).length) (xs ++ Lib.byteCells (minusT mb)) wr)
          case first =>
            cases mb with
            | false =>
              go_wp2
              go_meet
              case rel => exact ⟨a1, cap1, rfl, by simpa [minusT, Lib.byteCells] using HO6.out⟩
            | true =>
              have hsz := HO6.out.size
              go_wp2_with (at_builtin; refine wpList_append_own _ rfl _ _ 22 rfl w3.heap.size 5 i0 (.int .u8 0) 1 1 Tryd.underlying22 hi hz0 hz1 hz2 rfl (by decide) _ _ _ rfl (HO6.out.own.alloc _) ⟨_, 0, none⟩ 1 1 [.int .u8 45] rfl rfl (one_cell _ _ _ _ (by simp)) ?c2 ?c3 ?c4 ?c5 ?_)
              case c2 => first | rfl | (intro u hu; simp at hu; subst hu; rfl)
              case c3 => unfold maxLen; have := HN.out; omega
              case c4 => have := HN.out; omega
              case c5 => simp; omega
              intro v' w7 hown' hgrow _
              obtain ⟨a', cap', hv⟩ := own_slice hown'
              have HE := Lib.hid (HO6.out.app hown' hgrow)
              rw [hv] at HE ⊢
              clear hown' hgrow hv
              go_wp2
              go_meet
              case rel => exact ⟨a', cap', rfl, HE.out⟩
          case rest =>
            obtain ⟨a2, cap2, rfl, hO7⟩ := hcut
            obtain ⟨w7, rfl⟩ : ∃ w7, w7 = wc := ⟨_, rfl⟩
            have HO7 := Lib.hid hO7
            clear hO7 HO6
            have HL7 : Hid (0 < L → ∃ lb lo, la = some ⟨lb, lo, none⟩ ∧ lb < w7.heap.size ∧ ∀ j, j < L → w7.cell? ⟨lb, lo + j, none⟩ = some (.int .u64 (f j))) := fun hL => by
              obtain ⟨lb, lo, e, hlt, hcl⟩ := HM.out.limbs hL
              exact ⟨lb, lo, e, by have := HO7.out.size; omega, fun j hj => (HO7.out.bel.cell (p := ⟨lb, lo + j, none⟩) hlt).trans (hcl j hj)⟩
            go_wp2_with fail
            refine (dec_gen la L lc f w7 (by have := HN.out; omega) HF.out HTop.out HL7.out).mono ?_
            rintro e w8 ⟨⟨g8, o8, c8, rfl, hg8, hcell8⟩, hbel8⟩
            have HO8 := Lib.hid (HO7.out.below hbel8)
            have HC8 : Hid (∀ j u, (Lib.byteCells (decText f L))[j]? = some u → w8.cell? ((⟨g8, o8, none⟩ : Addr).add j) = some u) := fun j u hj => by rw [Lib.add_plain]; exact hcell8 j u hj
            have hdl : (decText f L).length ≤ 18 * L + 1 := by
              unfold decText
              by_cases h : L = 0
              · rw [if_pos h]; simp
              · rw [if_neg h, bigText_len f L (by omega) HF.out]; omega
            have hml : (minusT mb).length ≤ 1 := by cases mb <;> simp [minusT]
            clear hcell8 hbel8 HL7 HO7
            go_wp2_with (at_builtin; refine wpList_append_own _ rfl _ _ 22 rfl w3.heap.size 5 i0 (.int .u8 0) 1 1 Tryd.underlying22 hi hz0 hz1 hz2 rfl (by decide) _ _ _ rfl HO8.out.own ⟨g8, o8, none⟩ (decText f L).length c8 (Lib.byteCells (decText f L)) rfl ?r0 HC8.out ?r2 ?r3 ?r4 ?r5 ?_)
            case r0 => simp [Lib.byteCells_length]
            case r2 => intro u hu; obtain ⟨q, rfl⟩ := AllU8.bytes _ u hu; rfl
            case r3 => unfold maxLen; have := HN.out; omega
            case r4 => have := HN.out; omega
            case r5 => exact HO8.out.size
            intro v9 w9 hown9 hg9 _
            have hO9 := HO8.out.app0 hown9 hg9
            obtain ⟨a9, c9, hv9, hcell9⟩ := own_cells hO9.own
            rw [hv9]
            have hcs : xs ++ Lib.byteCells (minusT mb) ++ Lib.byteCells (decText f L) = xs ++ Lib.byteCells (fullText neg f L) := by rw [HE0.out, Lib.byteCells_append, List.append_assoc]
            have hkl : n + (minusT mb).length + (decText f L).length = n + (fullText neg f L).length := by rw [HE0.out, List.length_append]; omega
            have hxl : xs.length = n := HM.out.src.len
            rw [hkl] at hcell9 ⊢
            obtain ⟨K, hK⟩ : ∃ K, n + (fullText neg f L).length = K := ⟨_, rfl⟩
            have hlenK : (xs ++ Lib.byteCells (fullText neg f L)).length = K := by rw [List.length_append, hxl, Lib.byteCells_length]; exact hK
            have hU := HU.out.app (AllU8.bytes (fullText neg f L))
            have hKle : K ≤ 4194304 := by rw [← hK, ← hkl]; have := HN.out; omega
            have HOut : Hid (0 < K → ∃ g o, oa = some ⟨g, o, none⟩ ∧ ∀ j, j < K → w9.cell? ⟨g, o + j, none⟩ = some (.int .u8 (numAt (xs ++ Lib.byteCells (fullText neg f L)) j))) := fun h0 => by
              obtain ⟨g, e, hc⟩ := HM.out.out (by omega)
              refine ⟨g, 0, e, fun j hj => ?_⟩
              have hcj := hc j _ (numAt_cell hU (by omega))
              exact (hO9.bel.cell (p := ⟨g, 0 + j, none⟩) (World.block_lt_of_cell? w3 _ hcj)).trans hcj
            have HWant : Hid (0 < K → ∃ g o, a9 = some ⟨g, o, none⟩ ∧ ∀ j, j < K → w9.cell? ⟨g, o + j, none⟩ = some (.int .u8 (numAt (xs ++ Lib.byteCells (fullText neg f L)) j))) := fun h0 => by
              obtain ⟨g, e, hc⟩ := hcell9 (by omega)
              refine ⟨g, 0, e, fun j hj => hc j _ ?_⟩
              rw [← numAt_cell hU (by omega), ← hcs]
              first | rfl | simp only [List.append_assoc]
            have HB9 : Hid (Below w.heap.size w w9) := HM.out.bel.trans (hO9.bel.mono HM.out.bel.size)
            rw [hK]
            clear hcell9 hO9 hown9 hg9 hv9 hcs hkl hxl hlenK hU HO8 HC8 HM hK
            go_wp2_with fail
            refine (beq_yes oa a9 K oc c9 (numAt (xs ++ Lib.byteCells (fullText neg f L))) w9 hKle HOut.out HWant.out).mono ?_
            rintro e w10 ⟨rfl, q, rfl⟩
            go_wp2
            go_ret
            exact ⟨rfl, HB9.out.trans ⟨rfl, rfl, rfl, Nat.le_refl _, fun _ _ => rfl⟩⟩
end Go.Proofs.Qxb6605555aDoor
