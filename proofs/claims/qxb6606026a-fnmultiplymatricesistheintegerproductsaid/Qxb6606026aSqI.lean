import Derived.Test.Qxb6606026aSq
namespace Go.Proofs.Qxb6606026a
open Go.RowKit

set_option maxRecDepth 100000 in
theorem sizeVecI (a : Option Addr) (n c : Nat) (w : World) : Calls Try.prog 21 #[.slice a n c] w (NumEnd 8388608 w) := by
  go_enter Try.func21, Try.ntmps21
  by_cases h : (n : Int) > 1048576
  · go_wp2
    go_ret
    exact ⟨⟨_, rfl, by omega, by omega⟩, rfl⟩
  · go_wp2
    go_ret
    exact ⟨⟨_, rfl, by omega, by omega⟩, rfl⟩

set_option maxRecDepth 100000 in
set_option maxHeartbeats 1000000 in
theorem sizeMatI (a : Option Addr) (n c : Nat) (L : Nat → Nat) (w : World) (ha : Rws w a n L) : Calls Try.prog 7 #[.slice a n c] w (NumEnd 1048577 w) := by
  have HA := hid ha
  clear ha
  go_enter Try.func7, Try.ntmps7
  by_cases h : (n : Int) > 1048576
  · go_wp2
    go_ret
    exact ⟨⟨_, rfl, by omega, by omega⟩, rfl⟩
  · by_cases h8 : 8 * (n : Int) > 1048576
    · go_wp2
      go_ret
      exact ⟨⟨_, rfl, by omega, by omega⟩, rfl⟩
    · go_wp2
      go_loopg [3, 4] n (fun g s t wr => ∃ (v : Int) (k : Nat), s = .int .i64 v ∧ t = .int .i64 k ∧ 0 ≤ v ∧ v ≤ 1048576 ∧ k ≤ n ∧ g = n - k ∧ w = wr)
      case atStart => exact ⟨_, 0, rfl, rfl, by omega, by omega, Nat.zero_le _, rfl, rfl⟩
      case round =>
        obtain ⟨v, k, rfl, rfl, hv0, hv1, hk, rfl, rfl⟩ := hrel
        by_cases hlt : k < n
        · obtain ⟨g, o, RA, RC, rfl, h1⟩ := HA.out.ex (by omega)
          have c1 := h1 k hlt
          clear h1
          have hltz : (k : Int) < (n : Int) := by omega
          go_wp2_with fail
          go_at_call 21
          refine (sizeVecI _ _ _ _).mono ?_
          rintro e w' ⟨⟨u, rfl, hu0, hu1⟩, rfl⟩
          by_cases hs : v + u > 1048576
          · go_wp2
            go_ret
            exact ⟨⟨_, rfl, by omega, by omega⟩, rfl⟩
          · go_wp2
            go_roundg (n - (k + 1))
            case measure => go_light; omega
            case rel => go_light; exact ⟨_, k + 1, rfl, by simp, by omega, by omega, by omega, rfl, rfl⟩
        · have hltz : ¬ (k : Int) < (n : Int) := by omega
          go_wp2
          go_ret
          exact ⟨⟨_, rfl, by omega, by omega⟩, rfl⟩

set_option maxRecDepth 100000 in
set_option maxHeartbeats 1000000 in
theorem shapeI (a : Option Addr) (n c p q : Nat) (L : Nat → Nat) (w : World) (hn : (n : Int) ≤ 9223372036854775807) (ha : Rws w a n L) : Calls Try.prog 22 #[.slice a n c, .int .i64 p, .int .i64 q] w (ShapeEnd (Shp n p q L) w) := by
  have HA := hid ha
  clear ha
  go_enter Try.func22, Try.ntmps22
  by_cases h : n = p
  · subst h
    have hb : ((n : Int) != (n : Int)) = false := by simp
    go_wp2
    go_loopg [7] n (fun g t wr => ∃ (k : Nat), t = .int .i64 k ∧ k ≤ n ∧ g = n - k ∧ w = wr ∧ Hid (∀ i, i < k → L i = q))
    case atStart => exact ⟨0, rfl, Nat.zero_le _, rfl, rfl, fun i hi => absurd hi (Nat.not_lt_zero _)⟩
    case round =>
      obtain ⟨k, rfl, hk, rfl, rfl, HL⟩ := hrel
      by_cases hlt : k < n
      · obtain ⟨g, o, RA, RC, rfl, h1⟩ := HA.out.ex (by omega)
        have c1 := h1 k hlt
        clear h1
        have hltz : (k : Int) < (n : Int) := by omega
        by_cases hq : L k = q
        · have hb : ((L k : Int) != (q : Int)) = false := by simp [hq]
          have HQ := hid hq
          clear hq
          go_wp2
          go_roundg (n - (k + 1))
          case measure => go_light; omega
          case rel => go_light; exact ⟨k + 1, by go_num, by omega, rfl, rfl, fun i hi => by
            by_cases e : i = k
            · rw [e]; exact HQ.out
            · exact HL.out i (by omega)⟩
        · have hb : ((L k : Int) != (q : Int)) = true := by simp; omega
          have HQ := hid hq
          clear hq
          go_wp2
          go_ret
          exact ⟨⟨_, rfl, (fun q => by cases q), fun q => absurd (q.row k hlt) HQ.out⟩, rfl⟩
      · have hltz : ¬ (k : Int) < (n : Int) := by omega
        go_wp2
        go_ret
        exact ⟨⟨_, rfl, fun _ => ⟨rfl, fun i hi => HL.out i (by omega)⟩, fun _ => rfl⟩, rfl⟩
  · have hb : ((n : Int) != (p : Int)) = true := by simp; omega
    go_wp2
    go_ret
    exact ⟨⟨_, rfl, (fun q => by cases q), fun q => absurd q.len h⟩, rfl⟩
set_option maxRecDepth 100000 in
set_option maxHeartbeats 1000000 in
theorem squareI (a b : Option Addr) (n m ca cb : Nat) (L M : Nat → Nat) (w : World) (hn : (n : Int) ≤ 9223372036854775807) (hm : (m : Int) ≤ 9223372036854775807) (ha : Rws w a n L) (hb : Rws w b m M) :
    Calls Try.prog 8 #[.slice a n ca, .slice b m cb] w (ShapeEnd (Sq n m L M) w) := by
  have HA := hid ha
  have HB := hid hb
  clear ha hb
  go_enter Try.func8, Try.ntmps8
  by_cases h : n ≤ 256
  · have hz : (n : Int) ≤ 256 := by omega
    go_wp2_with fail
    go_at_call 22
    refine (shapeI a n ca n n L w hn HA.out).mono ?_
    rintro e w' ⟨⟨v, rfl, hv⟩, rfl⟩
    have HV := hid hv
    clear hv
    cases v with
    | true =>
      go_wp2_with fail
      go_at_call 22
      refine (shapeI b m cb n n M _ hm HB.out).mono ?_
      rintro e w' ⟨⟨u, rfl, hu⟩, rfl⟩
      have HU := hid hu
      clear hu
      go_wp2
      go_ret
      exact ⟨⟨u, rfl, fun q => ⟨h, HV.out.1 (by first | rfl | trivial), HU.out.1 q⟩, fun q => HU.out.2 q.two⟩, rfl⟩
    | false =>
      go_wp2
      go_ret
      exact ⟨⟨false, rfl, (fun q => by cases q), fun q => HV.out.2 q.one⟩, rfl⟩
  · have hz : ¬ (n : Int) ≤ 256 := by omega
    go_wp2
    go_ret
    exact ⟨⟨false, rfl, (fun q => by cases q), fun q => absurd q.small h⟩, rfl⟩

set_option maxRecDepth 100000 in
set_option maxHeartbeats 4000000 in
theorem bytesI (a b : Option Addr) (n m ca cb : Nat) (L M : Nat → Nat) (w : World) (ha : Rws w a n L) (hb : Rws w b m M) :
    Calls Try.prog 6 #[.slice a n ca, .slice b m cb] w (BoolEnd w) := by
  have HA := hid ha
  have HB := hid hb
  clear ha hb
  go_enter Try.func6, Try.ntmps6
  by_cases h : (n : Int) > 1048576
  · go_wp2
    go_ret
    exact ⟨⟨_, rfl⟩, rfl⟩
  · go_wp2
    go_loopg [5, 6] n (fun g s t wr => ∃ (v : Int) (k : Nat), s = .int .i64 v ∧ t = .int .i64 k ∧ 0 ≤ v ∧ v ≤ 1048576 ∧ k ≤ n ∧ g = n - k ∧ w = wr)
    case atStart => exact ⟨_, 0, rfl, rfl, by omega, by omega, Nat.zero_le _, rfl, rfl⟩
    case round =>
      obtain ⟨v, k, rfl, rfl, hv0, hv1, hk, rfl, rfl⟩ := hrel
      by_cases hlt : k < n
      · obtain ⟨g, o, RA, RC, rfl, h1⟩ := HA.out.ex (by omega)
        have c1 := h1 k hlt
        clear h1
        have hltz : (k : Int) < (n : Int) := by omega
        by_cases hL : (L k : Int) > 1048576
        · go_wp2
          go_ret
          exact ⟨⟨_, rfl⟩, rfl⟩
        · by_cases hs : v + (L k : Int) > 1048576
          · go_wp2
            go_ret
            exact ⟨⟨_, rfl⟩, rfl⟩
          · go_wp2
            go_roundg (n - (k + 1))
            case measure => go_light; omega
            case rel => go_light; exact ⟨_, k + 1, rfl, by go_num, by omega, by omega, by omega, rfl, rfl⟩
      · have hltz : ¬ (k : Int) < (n : Int) := by omega
        by_cases hm : (m : Int) > 1048576
        · go_wp2
          go_ret
          exact ⟨⟨_, rfl⟩, rfl⟩
        · by_cases hs : v + (m : Int) > 1048576
          · go_wp2
            go_ret
            exact ⟨⟨_, rfl⟩, rfl⟩
          · go_wp2
            clear hltz
            go_loopg [5, 7] m (fun g s t wr => ∃ (v : Int) (k : Nat), s = .int .i64 v ∧ t = .int .i64 k ∧ 0 ≤ v ∧ v ≤ 1048576 ∧ k ≤ m ∧ g = m - k ∧ w = wr)
            case atStart => exact ⟨_, 0, rfl, rfl, by omega, by omega, Nat.zero_le _, rfl, rfl⟩
            case round =>
              clear hs hv0 hv1
              obtain ⟨v, k, rfl, rfl, hv0, hv1, hk, rfl, rfl⟩ := hrel
              by_cases hlt : k < m
              · obtain ⟨g, o, RA, RC, rfl, h1⟩ := HB.out.ex (by omega)
                have c1 := h1 k hlt
                clear h1
                have hltz : (k : Int) < (m : Int) := by omega
                by_cases hL : (M k : Int) > 1048576
                · go_wp2
                  go_ret
                  exact ⟨⟨_, rfl⟩, rfl⟩
                · by_cases hs : v + (M k : Int) > 1048576
                  · go_wp2
                    go_ret
                    exact ⟨⟨_, rfl⟩, rfl⟩
                  · go_wp2
                    go_roundg (m - (k + 1))
                    case measure => go_light; omega
                    case rel => go_light; exact ⟨_, k + 1, rfl, by go_num, by omega, by omega, by omega, rfl, rfl⟩
              · have hltz : ¬ (k : Int) < (m : Int) := by omega
                go_wp2
                go_ret
                exact ⟨⟨_, rfl⟩, rfl⟩
end Go.Proofs.Qxb6606026a
