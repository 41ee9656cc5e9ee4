/-
  No cell of these rows narrows 'for every input' (looked for: loops, veiled, ifaces, maps, wideKeys, modest, calm, conditions, laid).
  DERIVED. THE GIVEN ROWS OF THIS SEAT. 2 by the template 'for every input the law returns true; each argument reads behind the call as it read before'; 0 by the template 'total and deterministic' (their statements: Qxb6605555aTotals.lean).
  GIVEN WITH THE SEED: the statements are not yours to turn. If you find one false, say at which input.
  Laid BY PROGRAM, IN A SANDBOX (cutbox-rows.mjs): the forced cells as the released guide's own fill.sh prints them over the translation 493147387c37e101… (all of the seat's roots in one cut). By AI agents, Wed Nov 11 2026. No macro, syntax, notation, axiom, sorry.
-/
import Derived.Test.Qxb6605555aChecked
import GoSem.Claim
import GoSem.ClaimJoined
import GoSem.ClaimMapViews
import Derived.JoinedTies
import Derived.KernelRfl
namespace Go.Proofs.Qxb6605555a
/- THE CELL 'sum', in the pinned program and in every row, IS THE sha256 OF THE DUMP (.gsa) THAT Qxb6605555aProg.lean LOADS. Nothing in Lean hashes anything: it is a label: what it is worth is what the hold of that sum in a sandbox is worth. -/
noncomputable def Try.pinned : Pinned := { name := "qxb6605555a", sum := "493147387c37e1012c9b450c3108ac6a8d0ff13ec17d184f0c21f4429bb23a55", checked := Try.checked }
namespace Rows
def none {H : Type} : Left H := { results := [], args := [] }

/-- 'zzlaws_nodeproto_b1.FnNumberMatchesJSONGrammar': WHATEVER THE INPUT: true; the input reads as it did. -/
def fnNumberMatchesJSONGrammarSpec : ChangeSpec := { name := "fnNumberMatchesJSONGrammar", fn := fun _ => fun
  | [d] => { results := [.lit (.bool true)], args := [d] }
  | _ => none }
def fnNumberMatchesJSONGrammarRow : OpenClaim := { program := "qxb6605555a", sum := "493147387c37e1012c9b450c3108ac6a8d0ff13ec17d184f0c21f4429bb23a55", func := "example.com/concordis/concordis/zzlaws_nodeproto_b1.FnNumberMatchesJSONGrammar", spec := "fnNumberMatchesJSONGrammar", unfollowed := true, recurses := true, apart := false }
def FnNumberMatchesJSONGrammarSaid : Prop := fnNumberMatchesJSONGrammarRow.holds Try.pinned (OpenSpec.ofChange fnNumberMatchesJSONGrammarSpec)

/-- ITS FALSE NEIGHBOUR: 'it returns false'. Refute it at one input. -/
def fnNumberMatchesJSONGrammarWrong : ChangeSpec := { name := "fnNumberMatchesJSONGrammar", fn := fun _ => fun
  | [d] => { results := [.lit (.bool false)], args := [d] }
  | _ => none }
def FnNumberMatchesJSONGrammarWrongFalsely : Prop := fnNumberMatchesJSONGrammarRow.holds Try.pinned (OpenSpec.ofChange fnNumberMatchesJSONGrammarWrong)

/-- 'zzlaws_nodeproto_b1.FnParseIntegerMinusMirrors': WHATEVER THE INPUT: true; the input reads as it did. -/
def fnParseIntegerMinusMirrorsSpec : ChangeSpec := { name := "fnParseIntegerMinusMirrors", fn := fun _ => fun
  | [d] => { results := [.lit (.bool true)], args := [d] }
  | _ => none }
def fnParseIntegerMinusMirrorsRow : OpenClaim := { program := "qxb6605555a", sum := "493147387c37e1012c9b450c3108ac6a8d0ff13ec17d184f0c21f4429bb23a55", func := "example.com/concordis/concordis/zzlaws_nodeproto_b1.FnParseIntegerMinusMirrors", spec := "fnParseIntegerMinusMirrors", unfollowed := true, recurses := true, apart := false }
def FnParseIntegerMinusMirrorsSaid : Prop := fnParseIntegerMinusMirrorsRow.holds Try.pinned (OpenSpec.ofChange fnParseIntegerMinusMirrorsSpec)

/-- ITS FALSE NEIGHBOUR: 'it returns false'. Refute it at one input. -/
def fnParseIntegerMinusMirrorsWrong : ChangeSpec := { name := "fnParseIntegerMinusMirrors", fn := fun _ => fun
  | [d] => { results := [.lit (.bool false)], args := [d] }
  | _ => none }
def FnParseIntegerMinusMirrorsWrongFalsely : Prop := fnParseIntegerMinusMirrorsRow.holds Try.pinned (OpenSpec.ofChange fnParseIntegerMinusMirrorsWrong)

end Rows
end Go.Proofs.Qxb6605555a
