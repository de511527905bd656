/-
  No cell of these rows narrows 'for every input' (looked for: loops, veiled, ifaces, maps, wideKeys, modest, calm, conditions, laid).
  DERIVED. THE GIVEN ROWS OF THIS SEAT. 1 by the template 'for every input the law returns true; each argument reads behind the call as it read before'; 0 by the template 'total and deterministic' (their statements: Qxb6617717aTotals.lean).
  GIVEN WITH THE SEED: the statements are not yours to turn. If you find one false, say at which input.
  Laid BY PROGRAM, IN A SANDBOX (cutbox-rows.mjs): the forced cells as the released guide's own fill.sh prints them over the translation 558dbe931f0defe3… (all of the seat's roots in one cut). By AI agents, Wed Nov 11 2026. No macro, syntax, notation, axiom, sorry.
-/
import Derived.Test.Qxb6617717aChecked
import GoSem.Claim
import GoSem.ClaimJoined
import GoSem.ClaimMapViews
import Derived.JoinedTies
import Derived.KernelRfl
namespace Go.Proofs.Qxb6617717a
/- THE CELL 'sum', in the pinned program and in every row, IS THE sha256 OF THE DUMP (.gsa) THAT Qxb6617717aProg.lean LOADS. Nothing in Lean hashes anything: it is a label: what it is worth is what the hold of that sum in a sandbox is worth. -/
noncomputable def Try.pinned : Pinned := { name := "qxb6617717a", sum := "558dbe931f0defe31d64ee8aef0ff3a8c9805d91df345213a93d7f0827da5830", checked := Try.checked }
namespace Rows
def none {H : Type} : Left H := { results := [], args := [] }

/-- 'zzlaws_root_b1.FnKindSetHasIsMembership': WHATEVER THE INPUT: true; the input reads as it did. -/
def fnKindSetHasIsMembershipSpec : ChangeSpec := { name := "fnKindSetHasIsMembership", fn := fun _ => fun
  | [d1, d2] => { results := [.lit (.bool true)], args := [d1, d2] }
  | _ => none }
def fnKindSetHasIsMembershipRow : OpenClaim := { program := "qxb6617717a", sum := "558dbe931f0defe31d64ee8aef0ff3a8c9805d91df345213a93d7f0827da5830", func := "example.com/precept/precept/zzlaws_root_b1.FnKindSetHasIsMembership", spec := "fnKindSetHasIsMembership", apart := false }
def FnKindSetHasIsMembershipSaid : Prop := fnKindSetHasIsMembershipRow.holds Try.pinned (OpenSpec.ofChange fnKindSetHasIsMembershipSpec)

/-- ITS FALSE NEIGHBOUR: 'it returns false'. Refute it at one input. -/
def fnKindSetHasIsMembershipWrong : ChangeSpec := { name := "fnKindSetHasIsMembership", fn := fun _ => fun
  | [d1, d2] => { results := [.lit (.bool false)], args := [d1, d2] }
  | _ => none }
def FnKindSetHasIsMembershipWrongFalsely : Prop := fnKindSetHasIsMembershipRow.holds Try.pinned (OpenSpec.ofChange fnKindSetHasIsMembershipWrong)

end Rows
end Go.Proofs.Qxb6617717a
