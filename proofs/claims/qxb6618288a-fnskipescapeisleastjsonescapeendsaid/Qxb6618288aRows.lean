/-
  No cell of these rows narrows 'for every input' (looked for: loops, veiled, ifaces, maps, wideKeys, modest, calm, conditions, laid).
  DERIVED. THE GIVEN ROWS OF THIS SEAT. 2 by the template 'for every input the law returns true; each argument reads behind the call as it read before'; 0 by the template 'total and deterministic' (their statements: Qxb6618288aTotals.lean).
  GIVEN WITH THE SEED: the statements are not yours to turn. If you find one false, say at which input.
  Laid BY PROGRAM, IN A SANDBOX (cutbox-rows.mjs): the forced cells as the released guide's own fill.sh prints them over the translation be2248eb0fbcc99b… (all of the seat's roots in one cut). By AI agents, Wed Nov 11 2026. No macro, syntax, notation, axiom, sorry.
-/
import Derived.Test.Qxb6618288aChecked
import GoSem.Claim
import GoSem.ClaimJoined
import GoSem.ClaimMapViews
import Derived.JoinedTies
import Derived.KernelRfl
namespace Go.Proofs.Qxb6618288a
/- THE CELL 'sum', in the pinned program and in every row, IS THE sha256 OF THE DUMP (.gsa) THAT Qxb6618288aProg.lean LOADS. Nothing in Lean hashes anything: it is a label: what it is worth is what the hold of that sum in a sandbox is worth. -/
noncomputable def Try.pinned : Pinned := { name := "qxb6618288a", sum := "be2248eb0fbcc99b1ce73605e882178714a1d6f6ed0449f0881c75e33571d084", checked := Try.checked }
namespace Rows
def none {H : Type} : Left H := { results := [], args := [] }

/-- 'zzlaws_wire_b1.FnSkipEscapeIsLeastJSONEscapeEnd': WHATEVER THE INPUT: true; the input reads as it did. -/
def fnSkipEscapeIsLeastJSONEscapeEndSpec : ChangeSpec := { name := "fnSkipEscapeIsLeastJSONEscapeEnd", fn := fun _ => fun
  | [d1, d2] => { results := [.lit (.bool true)], args := [d1, d2] }
  | _ => none }
def fnSkipEscapeIsLeastJSONEscapeEndRow : OpenClaim := { program := "qxb6618288a", sum := "be2248eb0fbcc99b1ce73605e882178714a1d6f6ed0449f0881c75e33571d084", func := "example.com/sessionwire/sessionwire/zzlaws_wire_b1.FnSkipEscapeIsLeastJSONEscapeEnd", spec := "fnSkipEscapeIsLeastJSONEscapeEnd", apart := false }
def FnSkipEscapeIsLeastJSONEscapeEndSaid : Prop := fnSkipEscapeIsLeastJSONEscapeEndRow.holds Try.pinned (OpenSpec.ofChange fnSkipEscapeIsLeastJSONEscapeEndSpec)

/-- ITS FALSE NEIGHBOUR: 'it returns false'. Refute it at one input. -/
def fnSkipEscapeIsLeastJSONEscapeEndWrong : ChangeSpec := { name := "fnSkipEscapeIsLeastJSONEscapeEnd", fn := fun _ => fun
  | [d1, d2] => { results := [.lit (.bool false)], args := [d1, d2] }
  | _ => none }
def FnSkipEscapeIsLeastJSONEscapeEndWrongFalsely : Prop := fnSkipEscapeIsLeastJSONEscapeEndRow.holds Try.pinned (OpenSpec.ofChange fnSkipEscapeIsLeastJSONEscapeEndWrong)

/-- 'zzlaws_wire_b1.FnSkipEscapeKeepsItsWidthInAnyContext': WHATEVER THE INPUT: true; the input reads as it did. -/
def fnSkipEscapeKeepsItsWidthInAnyContextSpec : ChangeSpec := { name := "fnSkipEscapeKeepsItsWidthInAnyContext", fn := fun _ => fun
  | [d1, d2, d3, d4] => { results := [.lit (.bool true)], args := [d1, d2, d3, d4] }
  | _ => none }
def fnSkipEscapeKeepsItsWidthInAnyContextRow : OpenClaim := { program := "qxb6618288a", sum := "be2248eb0fbcc99b1ce73605e882178714a1d6f6ed0449f0881c75e33571d084", func := "example.com/sessionwire/sessionwire/zzlaws_wire_b1.FnSkipEscapeKeepsItsWidthInAnyContext", spec := "fnSkipEscapeKeepsItsWidthInAnyContext", apart := false }
def FnSkipEscapeKeepsItsWidthInAnyContextSaid : Prop := fnSkipEscapeKeepsItsWidthInAnyContextRow.holds Try.pinned (OpenSpec.ofChange fnSkipEscapeKeepsItsWidthInAnyContextSpec)

/-- ITS FALSE NEIGHBOUR: 'it returns false'. Refute it at one input. -/
def fnSkipEscapeKeepsItsWidthInAnyContextWrong : ChangeSpec := { name := "fnSkipEscapeKeepsItsWidthInAnyContext", fn := fun _ => fun
  | [d1, d2, d3, d4] => { results := [.lit (.bool false)], args := [d1, d2, d3, d4] }
  | _ => none }
def FnSkipEscapeKeepsItsWidthInAnyContextWrongFalsely : Prop := fnSkipEscapeKeepsItsWidthInAnyContextRow.holds Try.pinned (OpenSpec.ofChange fnSkipEscapeKeepsItsWidthInAnyContextWrong)

end Rows
end Go.Proofs.Qxb6618288a
