import Derived.Test.Qxb6605555aDoorLawA
import Derived.Test.Qxb6605555aDoorBack
import Derived.Test.Qxb6605555aDoorZz
import Derived.Test.Qxb6605555aDoorEq
import Derived.WalkKit
import Derived.Below
import Derived.Deep.CutRange
namespace Go.Proofs.Qxb6605555aDoor
open Go.RowKit

set_option maxRecDepth 100000 in
set_option maxHeartbeats 4000000 in
theorem lawB_short (neg : Bool) (a : Option Addr) (L c : Nat) (w : World) (h1 : L ≤ 9223372036854775807) (h : 58253 < L) :
    Calls Tryd.prog 5 #[.bool neg, .slice a L c] w (LawEnd w) := by
  by_cases k1 : 1048576 < L
  · go_enter Tryd.func5, Tryd.ntmps5
    go_wp2
    go_ret
    exact ⟨rfl, Below.refl _ _⟩
  · go_enter Tryd.func5, Tryd.ntmps5
    go_wp2
    go_ret
    exact ⟨rfl, Below.refl _ _⟩

theorem bytes_num (T : List UInt8) (j : Nat) (b : UInt8) (h : T[j]? = some b) : numAt (Lib.byteCells T) j = (b.toNat : Int) := by
  unfold numAt
  simp [Lib.byteCells, h]

theorem holds_full (neg : Bool) (f : Nat → Nat) (L : Nat) (hL : 0 < L) (hf : ∀ j, j < L → f j < 1000000000000000000) : HoldsTxt (numAt (Lib.byteCells (fullText neg f L))) (minusT neg).length f L := by
  intro i hi
  have h := bigText_get f L hL hf i hi
  have h2 : (fullText neg f L)[(minusT neg).length + i]? = some (UInt8.ofNat (dgt f (18 * L - 1 - (lead f L + i)))) := by
    unfold fullText
    rw [if_neg (by omega), List.getElem?_append_right (by omega), Nat.add_sub_cancel_left]
    exact h
  rw [bytes_num _ _ _ h2]
  have := dgt_hi f (18 * L - 1 - (lead f L + i))
  rw [UInt8.toNat_ofNat']
  omega

theorem full_minus (f : Nat → Nat) (L : Nat) (hL : 0 < L) : numAt (Lib.byteCells (fullText true f L)) 0 = 45 := by
  have h2 : (fullText true f L)[0]? = some 45 := by
    unfold fullText
    rw [if_neg (by omega)]
    simp [minusT]
  rw [bytes_num _ _ _ h2]
  rfl

/-- The text that is written is a JSON integer, which reads back. -/
theorem full_int (neg : Bool) (f : Nat → Nat) (L : Nat) (hf : ∀ j, j < L → f j < 1000000000000000000) (htop : 0 < L → ¬ f (L - 1) = 0) (hneg : neg = true → 0 < L) :
    ∃ s m, IsInt (numAt (Lib.byteCells (fullText neg f L))) (fullText neg f L).length s m ∧ (decide (s = 1) && decide (0 < L)) = neg ∧
      (if numAt (Lib.byteCells (fullText neg f L)) s = 48 then 0 else limbN m) = L ∧ ∀ k, k < L → limbAt (numAt (Lib.byteCells (fullText neg f L))) s m k = (f k : Int) := by
  by_cases hL : 0 < L
  · have hz := holds_full neg f L hL hf
    have hn : (fullText neg f L).length = (minusT neg).length + (18 * L - lead f L) := by
      unfold fullText
      rw [if_neg (by omega), List.length_append, bigText_len f L hL hf]
    have hs : ((minusT neg).length = 1 ∧ numAt (Lib.byteCells (fullText neg f L)) 0 = 45) ∨ (minusT neg).length = 0 := by
      cases neg with
      | true => exact .inl ⟨rfl, full_minus f L hL⟩
      | false => exact .inr rfl
    obtain ⟨hI, h48⟩ := isInt_back _ _ _ f L hL hf (htop hL) hz hn hs
    refine ⟨_, _, hI, ?_, ?_, fun k hk => limbAt_back _ _ f L k hf hz hk⟩
    · cases neg <;> simp [minusT, hL]
    · rw [if_neg h48, limbN_back f L hL]
  · have hL0 : L = 0 := by omega
    subst hL0
    have hneg' : neg = false := by
      cases neg with
      | true => exact absurd (hneg rfl) (by omega)
      | false => rfl
    subst hneg'
    have e0 : numAt (Lib.byteCells (fullText false f 0)) 0 = 48 := by
      rw [bytes_num (fullText false f 0) 0 48 rfl]; rfl
    refine ⟨0, 1, ⟨rfl, by omega, .inr ⟨rfl, by rw [e0]; omega⟩, fun i hi => ?_, fun i hi => ?_, fun _ => rfl⟩, by simp, by rw [if_pos e0], fun k hk => by omega⟩
    · have : i = 0 := by omega
      subst this; rw [e0]; omega
    · have : i = 0 := by omega
      subst this; rw [e0]; omega

set_option maxRecDepth 100000 in
set_option maxHeartbeats 8000000 in
theorem lawB_go (neg : Bool) (a : Option Addr) (L c : Nat) (y : Nat → Int) (w : World) (hL : L ≤ 58253) (hy0 : ∀ j, j < L → 0 ≤ y j)
    (ha : Sl w .u64 a L c y) (htab : Lib.TabIs Tryd.prog w Tryd.powName .u64 Lib.pow10Tab) :
    Calls Tryd.prog 5 #[.bool neg, .slice a L c] w (LawEnd w) := by
  have HA := Lib.hid ha
  have HT := Lib.hid (Lib.tabBelow_of_tabIs htab)
  have HY := Lib.hid hy0
  have k1 : (L : Int) ≤ 58253 := by omega
  have HN := Lib.hid hL
  clear ha htab hy0 hL
  go_enter Tryd.func5, Tryd.ntmps5
  go_wp2_with (first | (go_at_call 16; go_in))
  refine (wf_any a L c y w (by have := HN.out; omega) HA.out.cell).mono ?_
  rintro e w' ⟨Bv, rfl, hBv, hw⟩
  obtain rfl := hw.symm
  cases Bv with
  | false =>
    clear hBv
    go_wp2
    go_ret
    exact ⟨rfl, Below.refl _ _⟩
  | true =>
    have hwf := hBv.1 rfl
    obtain ⟨f, hf⟩ : ∃ f : Nat → Nat, f = fun j => (y j).toNat := ⟨_, rfl⟩
    have hfy : ∀ j, j < L → (f j : Int) = y j := fun j hj => by rw [hf]; exact Int.toNat_of_nonneg (HY.out j hj)
    have HF : Hid (∀ j, j < L → f j < 1000000000000000000) := fun j hj => by have := hwf.1 j hj; have := hfy j hj; omega
    have HTop : Hid (0 < L → ¬ f (L - 1) = 0) := fun hL => by have := hwf.2 hL; have := hfy (L - 1) (by omega); omega
    have HFY := Lib.hid hfy
    clear hf hfy hwf hBv hw
    by_cases hnl : neg = true ∧ L = 0
    · obtain ⟨h1, h2⟩ := hnl
      subst h1 h2
      go_wp2
      go_ret
      exact ⟨rfl, Below.refl _ _⟩
    · have HNL : Hid (neg = true → 0 < L) := fun h => by
        rcases Nat.eq_zero_or_pos L with e | e
        · exact absurd ⟨h, e⟩ hnl
        · exact e
      clear hnl
      cases neg with
      | false =>
        go_wp2_with fail
        refine (clonel_gen a L c y w (by have := HN.out; omega) HA.out).mono ?_
        rintro e w1 ⟨⟨la, lc, rfl, _, _, hlcell⟩, hbel1⟩
        have HL1 : Hid (0 < L → ∃ lb lo, la = some ⟨lb, lo, none⟩ ∧ lb < w1.heap.size ∧ ∀ j, j < L → w1.cell? ⟨lb, lo + j, none⟩ = some (.int .u64 (f j))) := fun hL => by
          obtain ⟨lb, e, _, hlt, hcl⟩ := hlcell hL
          exact ⟨lb, 0, e, hlt, fun j hj => by rw [HFY.out j hj]; exact hcl j hj⟩
        have HB1 := Lib.hid hbel1
        clear hlcell hbel1
        go_wp2_with fail
        refine (zzapp 0 0 L lc none false la f [] w1 ⟨fun _ => ⟨rfl, rfl⟩, Nat.le_refl _, rfl, (fun b q => by cases q)⟩ (by have := HN.out; omega) (by have := HN.out; omega) HL1.out HF.out (TabUp (HT.out.on HB1.out) HB1.out.size)).mono ?_
        rintro e w2 ⟨⟨ov, rfl, hown⟩, hbel2⟩
        have hTl : 0 < (fullText false f L).length ∧ (fullText false f L).length ≤ 18 * L + 1 := by
          obtain ⟨s, m, hI, _⟩ := full_int false f L HF.out HTop.out (fun h => by cases h)
          refine ⟨by have := hI.sn; have := hI.m0; omega, ?_⟩
          unfold fullText
          by_cases h : L = 0
          · rw [if_pos h]; simp
          · have hd := bigText_len f L (by omega) HF.out
            rw [if_neg h, List.length_append, hd]
            simp [minusT]; omega
        rw [Nat.zero_add, List.nil_append] at hown
        obtain ⟨g, cap, hv, hg1, hg2, hg3, hg4, hg5⟩ := own_pos hown hTl.1
        rw [hv]
        obtain ⟨s, m, hI, hsg, hLm, hlim⟩ := full_int false f L HF.out HTop.out (fun h => by cases h)
        have hU := AllU8.bytes (fullText false f L)
        have hlenT : (Lib.byteCells (fullText false f L)).length = (fullText false f L).length := Lib.byteCells_length _
        have HC2 : Hid (∀ j, j < (fullText false f L).length → w2.cell? ⟨g, 0 + j, none⟩ = some (.int .u8 (numAt (Lib.byteCells (fullText false f L)) j))) := fun j hj => by
          rw [Nat.zero_add]; exact hg5 j _ (numAt_cell hU (by omega))
        have HI := Lib.hid hI
        have HSg := Lib.hid hsg
        have HLm := Lib.hid hLm
        have HLim := Lib.hid hlim
        have HB2 : Hid (Below w.heap.size w w2) := HB1.out.trans (hbel2.mono HB1.out.size)
        have HL2 : Hid (0 < L → ∃ lb lo, la = some ⟨lb, lo, none⟩ ∧ lb < w2.heap.size ∧ ∀ j, j < L → w2.cell? ⟨lb, lo + j, none⟩ = some (.int .u64 (f j))) := fun hL => by
          obtain ⟨lb, lo, e, hlt, hcl⟩ := HL1.out hL
          exact ⟨lb, lo, e, by have := hbel2.size; omega, fun j hj => (hbel2.cell (p := ⟨lb, lo + j, none⟩) hlt).trans (hcl j hj)⟩
        unfold maxLen at hg4
        have hTl2 := hTl.2
        clear hv hg5 hown hI hsg hLm hlim hU hlenT hbel2 HL1 HB1 hTl
        go_wp2_with fail
        refine (zz_yes g 0 (fullText false f L).length cap s m (numAt (Lib.byteCells (fullText false f L))) w2 (by have := HN.out; omega) hg3 hg4 hg2 HC2.out HI.out).mono ?_
        rintro e w3 ⟨g3, L3, cap3, rfl, hL3, hLc3, hg31, hg32, hcell3, hbel3⟩
        have eL : L3 = L := hL3.trans HLm.out
        subst eL
        rw [HSg.out]
        have HE1 : Hid (0 < L3 → ∃ g o, some (⟨g3, 0, none⟩ : Addr) = some ⟨g, o, none⟩ ∧ ∀ j, j < L3 → w3.cell? ⟨g, o + j, none⟩ = some (.int .u64 (f j : Int))) := fun _ => ⟨g3, 0, rfl, fun j hj => by rw [Nat.zero_add, ← HLim.out j hj]; exact hcell3 j hj⟩
        have HE2 : Hid (0 < L3 → ∃ g o, la = some ⟨g, o, none⟩ ∧ ∀ j, j < L3 → w3.cell? ⟨g, o + j, none⟩ = some (.int .u64 (f j : Int))) := fun hL => by
          obtain ⟨lb, lo, e, hlt, hcl⟩ := HL2.out hL
          exact ⟨lb, lo, e, fun j hj => (hbel3.cell (p := ⟨lb, lo + j, none⟩) hlt).trans (hcl j hj)⟩
        have HB3 : Hid (Below w.heap.size w w3) := HB2.out.trans (hbel3.mono HB2.out.size)
        clear hL3 hcell3 hbel3 HL2 HC2
        go_wp2_with fail
        refine (eq_yes (some ⟨g3, 0, none⟩) la L3 cap3 lc (fun j => (f j : Int)) w3 (by have := HN.out; omega) HE1.out HE2.out).mono ?_
        rintro e w4 ⟨rfl, q, rfl⟩
        go_wp2
        go_ret
        exact ⟨rfl, below_drawn HB3.out q⟩
      | true =>
        have HLp : Hid (0 < L) := HNL.out rfl
        have hbL : ((L : Int) == 0) = false := beq_eq_false_iff_ne.2 (by have := HLp.out; omega)
        go_wp2_with fail
        refine (clonel_gen a L c y w (by have := HN.out; omega) HA.out).mono ?_
        rintro e w1 ⟨⟨la, lc, rfl, _, _, hlcell⟩, hbel1⟩
        have HL1 : Hid (0 < L → ∃ lb lo, la = some ⟨lb, lo, none⟩ ∧ lb < w1.heap.size ∧ ∀ j, j < L → w1.cell? ⟨lb, lo + j, none⟩ = some (.int .u64 (f j))) := fun hL => by
          obtain ⟨lb, e, _, hlt, hcl⟩ := hlcell hL
          exact ⟨lb, 0, e, hlt, fun j hj => by rw [HFY.out j hj]; exact hcl j hj⟩
        have HB1 := Lib.hid hbel1
        clear hlcell hbel1
        go_wp2_with fail
        refine (zzapp 0 0 L lc none true la f [] w1 ⟨fun _ => ⟨rfl, rfl⟩, Nat.le_refl _, rfl, (fun b q => by cases q)⟩ (by have := HN.out; omega) (by have := HN.out; omega) HL1.out HF.out (TabUp (HT.out.on HB1.out) HB1.out.size)).mono ?_
        rintro e w2 ⟨⟨ov, rfl, hown⟩, hbel2⟩
        have hTl : 0 < (fullText true f L).length ∧ (fullText true f L).length ≤ 18 * L + 1 := by
          obtain ⟨s, m, hI, _⟩ := full_int true f L HF.out HTop.out (fun _ => HLp.out)
          refine ⟨by have := hI.sn; have := hI.m0; omega, ?_⟩
          unfold fullText
          by_cases h : L = 0
          · rw [if_pos h]; simp
          · have hd := bigText_len f L (by omega) HF.out
            rw [if_neg h, List.length_append, hd]
            simp [minusT]; omega
        rw [Nat.zero_add, List.nil_append] at hown
        obtain ⟨g, cap, hv, hg1, hg2, hg3, hg4, hg5⟩ := own_pos hown hTl.1
        rw [hv]
        obtain ⟨s, m, hI, hsg, hLm, hlim⟩ := full_int true f L HF.out HTop.out (fun _ => HLp.out)
        have hU := AllU8.bytes (fullText true f L)
        have hlenT : (Lib.byteCells (fullText true f L)).length = (fullText true f L).length := Lib.byteCells_length _
        have HC2 : Hid (∀ j, j < (fullText true f L).length → w2.cell? ⟨g, 0 + j, none⟩ = some (.int .u8 (numAt (Lib.byteCells (fullText true f L)) j))) := fun j hj => by
          rw [Nat.zero_add]; exact hg5 j _ (numAt_cell hU (by omega))
        have HI := Lib.hid hI
        have HSg := Lib.hid hsg
        have HLm := Lib.hid hLm
        have HLim := Lib.hid hlim
        have HB2 : Hid (Below w.heap.size w w2) := HB1.out.trans (hbel2.mono HB1.out.size)
        have HL2 : Hid (0 < L → ∃ lb lo, la = some ⟨lb, lo, none⟩ ∧ lb < w2.heap.size ∧ ∀ j, j < L → w2.cell? ⟨lb, lo + j, none⟩ = some (.int .u64 (f j))) := fun hL => by
          obtain ⟨lb, lo, e, hlt, hcl⟩ := HL1.out hL
          exact ⟨lb, lo, e, by have := hbel2.size; omega, fun j hj => (hbel2.cell (p := ⟨lb, lo + j, none⟩) hlt).trans (hcl j hj)⟩
        unfold maxLen at hg4
        have hTl2 := hTl.2
        clear hv hg5 hown hI hsg hLm hlim hU hlenT hbel2 HL1 HB1 hTl
        go_wp2_with fail
        refine (zz_yes g 0 (fullText true f L).length cap s m (numAt (Lib.byteCells (fullText true f L))) w2 (by have := HN.out; omega) hg3 hg4 hg2 HC2.out HI.out).mono ?_
        rintro e w3 ⟨g3, L3, cap3, rfl, hL3, hLc3, hg31, hg32, hcell3, hbel3⟩
        have eL : L3 = L := hL3.trans HLm.out
        subst eL
        rw [HSg.out]
        have HE1 : Hid (0 < L3 → ∃ g o, some (⟨g3, 0, none⟩ : Addr) = some ⟨g, o, none⟩ ∧ ∀ j, j < L3 → w3.cell? ⟨g, o + j, none⟩ = some (.int .u64 (f j : Int))) := fun _ => ⟨g3, 0, rfl, fun j hj => by rw [Nat.zero_add, ← HLim.out j hj]; exact hcell3 j hj⟩
        have HE2 : Hid (0 < L3 → ∃ g o, la = some ⟨g, o, none⟩ ∧ ∀ j, j < L3 → w3.cell? ⟨g, o + j, none⟩ = some (.int .u64 (f j : Int))) := fun hL => by
          obtain ⟨lb, lo, e, hlt, hcl⟩ := HL2.out hL
          exact ⟨lb, lo, e, fun j hj => (hbel3.cell (p := ⟨lb, lo + j, none⟩) hlt).trans (hcl j hj)⟩
        have HB3 : Hid (Below w.heap.size w w3) := HB2.out.trans (hbel3.mono HB2.out.size)
        clear hL3 hcell3 hbel3 HL2 HC2
        go_wp2_with fail
        refine (eq_yes (some ⟨g3, 0, none⟩) la L3 cap3 lc (fun j => (f j : Int)) w3 (by have := HN.out; omega) HE1.out HE2.out).mono ?_
        rintro e w4 ⟨rfl, q, rfl⟩
        go_wp2
        go_ret
        exact ⟨rfl, below_drawn HB3.out q⟩
end Go.Proofs.Qxb6605555aDoor
