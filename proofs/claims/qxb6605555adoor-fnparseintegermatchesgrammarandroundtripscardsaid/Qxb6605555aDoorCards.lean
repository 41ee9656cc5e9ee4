/-
  DERIVED. GIVEN WITH THE SEED: THE CARDS: each row of Qxb6605555aDoorRows.lean that lists a variable, with what it lists TIED to the program's text (the seventh form; the later family's looks); each row that meets fmt, with fmt's text TOLD by the authors' own Lean function (tested against real Go, not proved from fmt's source: count such statements apart). THE CARD IS WHAT COUNTS. Prove the row's statement (the work); the ties are given (Qxb6605555aDoorTie.lean); close each card by the builder's one call (the guide's Derived/Test/ToyasCard.lean, 'card_holds'). Laid BY PROGRAM, IN A SANDBOX (cutbox-door.mjs). By AI agents, Wed Nov 11 2026. No macro, syntax, notation, axiom, sorry.
-/
import Derived.Test.Qxb6605555aDoorRows
import GoSem.ClaimSeven
namespace Go.Proofs.Qxb6605555aDoor
namespace Rows

/-- THE TIED CARD OF 'zzlaws_nodeproto_b1.FnParseIntegerMatchesGrammarAndRoundTrips'. -/
def fnParseIntegerMatchesGrammarAndRoundTripsCard : Claim7 := { stood := { row := fnParseIntegerMatchesGrammarAndRoundTripsRow, standIns := [], harness := (true, "d3d70de269cd1f65a0cf715621da717410fee4f44d82e03eeb35838caf9cb959"), looks := false }, kinds := [], alts := [], laidByText := true, laidKinds := [.data, .data, .data], laidTests := true, laidLooks := .later }
def FnParseIntegerMatchesGrammarAndRoundTripsCardSaid : Prop := Claim7.holds Tryd.pinned (.plain (OpenSpec.ofChange fnParseIntegerMatchesGrammarAndRoundTripsSpec)) fnParseIntegerMatchesGrammarAndRoundTripsCard

/-- THE TIED CARD OF 'zzlaws_nodeproto_b1.FnAppendTextWritesDecimalOfLimbs'. -/
def fnAppendTextWritesDecimalOfLimbsCard : Claim7 := { stood := { row := fnAppendTextWritesDecimalOfLimbsRow, standIns := [], harness := (true, "d3d70de269cd1f65a0cf715621da717410fee4f44d82e03eeb35838caf9cb959"), looks := false }, kinds := [], alts := [], laidByText := true, laidKinds := [.data, .data, .data], laidTests := true, laidLooks := .later }
def FnAppendTextWritesDecimalOfLimbsCardSaid : Prop := Claim7.holds Tryd.pinned (.plain (OpenSpec.ofChange fnAppendTextWritesDecimalOfLimbsSpec)) fnAppendTextWritesDecimalOfLimbsCard

/-- THE TIED CARD OF 'zzlaws_nodeproto_b1.FnAppendTextParsesBack'. -/
def fnAppendTextParsesBackCard : Claim7 := { stood := { row := fnAppendTextParsesBackRow, standIns := [], harness := (true, "d3d70de269cd1f65a0cf715621da717410fee4f44d82e03eeb35838caf9cb959"), looks := false }, kinds := [], alts := [], laidByText := true, laidKinds := [.data, .data, .data], laidTests := true, laidLooks := .later }
def FnAppendTextParsesBackCardSaid : Prop := Claim7.holds Tryd.pinned (.plain (OpenSpec.ofChange fnAppendTextParsesBackSpec)) fnAppendTextParsesBackCard
end Rows
end Go.Proofs.Qxb6605555aDoor
