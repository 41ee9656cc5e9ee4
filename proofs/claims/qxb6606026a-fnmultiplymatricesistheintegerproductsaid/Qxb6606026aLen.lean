import Derived.Test.Qxb6606026aBase
namespace Go.Proofs.Qxb6606026a
open Go.RowKit

/-- A slice of slices whose lengths can be read. -/
structure Rws (w : World) (a : Option Addr) (n : Nat) (L : Nat → Nat) : Prop where
  ex : 0 < n → ∃ (g o : Nat) (RA : Nat → Option Addr) (RC : Nat → Nat), a = some ⟨g, o, none⟩ ∧ ∀ i, i < n → w.cell? ⟨g, o + i, none⟩ = some (.slice (RA i) (L i) (RC i))

theorem Mat.rws {w : World} {a : Option Addr} {n : Nat} {X : Nat → Nat → Nat} (h : Mat w a n X) : Rws w a n (fun _ => n) :=
  ⟨fun hn => by
    obtain ⟨g, o, RG, RO, RC, e, h1, h2⟩ := h.ex hn
    exact ⟨g, o, fun i => some ⟨RG i, RO i, none⟩, RC, e, h1⟩⟩

theorem Rws.below {w w' : World} {a : Option Addr} {n : Nat} {L : Nat → Nat} (h : Rws w a n L) (hb : Below w.heap.size w w') : Rws w' a n L :=
  ⟨fun hn => by
    obtain ⟨g, o, RA, RC, e, h1⟩ := h.ex hn
    exact ⟨g, o, RA, RC, e, fun i hi => (hb.cell (World.block_lt_of_cell? w _ (h1 i hi))).trans (h1 i hi)⟩⟩

/-- Some bool; nothing is written. -/
structure BoolEnd (w : World) (e : Ending) (w' : World) : Prop where
  ex : ∃ v : Bool, e = .returned (.bool v)
  same : w' = w

/-- Some small number; nothing is written. -/
structure NumEnd (m : Int) (w : World) (e : Ending) (w' : World) : Prop where
  ex : ∃ v : Int, e = .returned (.int .i64 v) ∧ 0 ≤ v ∧ v ≤ m
  same : w' = w

/-- A test of the shape; nothing is written. -/
structure ShapeEnd (p : Prop) (w : World) (e : Ending) (w' : World) : Prop where
  ex : ∃ v : Bool, e = .returned (.bool v) ∧ (v = true ↔ p)
  same : w' = w

/-- n rows, p asked for; each of q cells. -/
structure Shp (n p q : Nat) (L : Nat → Nat) : Prop where
  len : n = p
  row : ∀ i, i < n → L i = q

set_option maxRecDepth 100000 in
theorem sizeVecF (a : Option Addr) (n c : Nat) (w : World) : Calls Try.prog 24 #[.slice a n c] w (NumEnd 8388608 w) := by
  go_enter Try.func24, Try.ntmps24
  by_cases h : (n : Int) > 1048576
  · go_wp2
    go_ret
    exact ⟨⟨_, rfl, by omega, by omega⟩, rfl⟩
  · go_wp2
    go_ret
    exact ⟨⟨_, rfl, by omega, by omega⟩, rfl⟩

set_option maxRecDepth 100000 in
set_option maxHeartbeats 1000000 in
theorem sizeMatF (a : Option Addr) (n c : Nat) (L : Nat → Nat) (w : World) (ha : Rws w a n L) : Calls Try.prog 12 #[.slice a n c] w (NumEnd 1048577 w) := by
  have HA := hid ha
  clear ha
  go_enter Try.func12, Try.ntmps12
  by_cases h : (n : Int) > 1048576
  · go_wp2
    go_ret
    exact ⟨⟨_, rfl, by omega, by omega⟩, rfl⟩
  · by_cases h8 : 8 * (n : Int) > 1048576
    · go_wp2
      go_ret
      exact ⟨⟨_, rfl, by omega, by omega⟩, rfl⟩
    · go_wp2
      go_loopg [3, 4] n (fun g s t wr => ∃ (v : Int) (k : Nat), s = .int .i64 v ∧ t = .int .i64 k ∧ 0 ≤ v ∧ v ≤ 1048576 ∧ k ≤ n ∧ g = n - k ∧ w = wr)
      case atStart => exact ⟨_, 0, rfl, rfl, by omega, by omega, Nat.zero_le _, rfl, rfl⟩
      case round =>
        obtain ⟨v, k, rfl, rfl, hv0, hv1, hk, rfl, rfl⟩ := hrel
        by_cases hlt : k < n
        · obtain ⟨g, o, RA, RC, rfl, h1⟩ := HA.out.ex (by omega)
          have c1 := h1 k hlt
          clear h1
          have hltz : (k : Int) < (n : Int) := by omega
          go_wp2_with fail
          go_at_call 24
          refine (sizeVecF _ _ _ _).mono ?_
          rintro e w' ⟨⟨u, rfl, hu0, hu1⟩, rfl⟩
          by_cases hs : v + u > 1048576
          · go_wp2
            go_ret
            exact ⟨⟨_, rfl, by omega, by omega⟩, rfl⟩
          · go_wp2
            go_roundg (n - (k + 1))
            case measure => go_light; omega
            case rel => go_light; exact ⟨_, k + 1, rfl, by simp, by omega, by omega, by omega, rfl, rfl⟩
        · have hltz : ¬ (k : Int) < (n : Int) := by omega
          go_wp2
          go_ret
          exact ⟨⟨_, rfl, by omega, by omega⟩, rfl⟩

set_option maxRecDepth 100000 in
set_option maxHeartbeats 1000000 in
theorem shapeF (a : Option Addr) (n c p q : Nat) (L : Nat → Nat) (w : World) (hn : (n : Int) ≤ 9223372036854775807) (ha : Rws w a n L) : Calls Try.prog 15 #[.slice a n c, .int .i64 p, .int .i64 q] w (ShapeEnd (Shp n p q L) w) := by
  have HA := hid ha
  clear ha
  go_enter Try.func15, Try.ntmps15
  by_cases h : n = p
  · subst h
    have hb : ((n : Int) != (n : Int)) = false := by simp
    go_wp2
    go_loopg [7] n (fun g t wr => ∃ (k : Nat), t = .int .i64 k ∧ k ≤ n ∧ g = n - k ∧ w = wr ∧ Hid (∀ i, i < k → L i = q))
    case atStart => exact ⟨0, rfl, Nat.zero_le _, rfl, rfl, fun i hi => absurd hi (Nat.not_lt_zero _)⟩
    case round =>
      obtain ⟨k, rfl, hk, rfl, rfl, HL⟩ := hrel
      by_cases hlt : k < n
      · obtain ⟨g, o, RA, RC, rfl, h1⟩ := HA.out.ex (by omega)
        have c1 := h1 k hlt
        clear h1
        have hltz : (k : Int) < (n : Int) := by omega
        by_cases hq : L k = q
        · have hb : ((L k : Int) != (q : Int)) = false := by simp [hq]
          have HQ := hid hq
          clear hq
          go_wp2
          go_roundg (n - (k + 1))
          case measure => go_light; omega
          case rel => go_light; exact ⟨k + 1, by go_num, by omega, rfl, rfl, fun i hi => by
            by_cases e : i = k
            · rw [e]; exact HQ.out
            · exact HL.out i (by omega)⟩
        · have hb : ((L k : Int) != (q : Int)) = true := by simp; omega
          have HQ := hid hq
          clear hq
          go_wp2
          go_ret
          exact ⟨⟨_, rfl, (fun q => by cases q), fun q => absurd (q.row k hlt) HQ.out⟩, rfl⟩
      · have hltz : ¬ (k : Int) < (n : Int) := by omega
        go_wp2
        go_ret
        exact ⟨⟨_, rfl, fun _ => ⟨rfl, fun i hi => HL.out i (by omega)⟩, fun _ => rfl⟩, rfl⟩
  · have hb : ((n : Int) != (p : Int)) = true := by simp; omega
    go_wp2
    go_ret
    exact ⟨⟨_, rfl, (fun q => by cases q), fun q => absurd q.len h⟩, rfl⟩
end Go.Proofs.Qxb6606026a
