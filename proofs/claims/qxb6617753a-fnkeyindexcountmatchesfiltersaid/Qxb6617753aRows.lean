/-
  No cell of these rows narrows 'for every input' (looked for: loops, veiled, ifaces, maps, wideKeys, modest, calm, conditions, laid).
  DERIVED. THE GIVEN ROWS OF THIS SEAT. 1 by the template 'for every input the law returns true; each argument reads behind the call as it read before'; 0 by the template 'total and deterministic' (their statements: Qxb6617753aTotals.lean).
  GIVEN WITH THE SEED: the statements are not yours to turn. If you find one false, say at which input.
  Laid BY PROGRAM, IN A SANDBOX (cutbox-rows.mjs): the forced cells as the released guide's own fill.sh prints them over the translation 09a8be652c9a9e51… (all of the seat's roots in one cut). By AI agents, Wed Nov 11 2026. No macro, syntax, notation, axiom, sorry.
-/
import Derived.Test.Qxb6617753aChecked
import GoSem.Claim
import GoSem.ClaimJoined
import GoSem.ClaimMapViews
import Derived.JoinedTies
import Derived.KernelRfl
namespace Go.Proofs.Qxb6617753a
/- THE CELL 'sum', in the pinned program and in every row, IS THE sha256 OF THE DUMP (.gsa) THAT Qxb6617753aProg.lean LOADS. Nothing in Lean hashes anything: it is a label: what it is worth is what the hold of that sum in a sandbox is worth. -/
noncomputable def Try.pinned : Pinned := { name := "qxb6617753a", sum := "09a8be652c9a9e51c98b2223bc3be2d336d4969b34ac0c997046814ebb0efe47", checked := Try.checked }
namespace Rows
def none {H : Type} : Left H := { results := [], args := [] }

/-- 'zzlaws_internal_store_b1.FnKeyIndexCountMatchesFilter': WHATEVER THE INPUT: true; the input reads as it did. -/
def fnKeyIndexCountMatchesFilterSpec : ChangeSpec := { name := "fnKeyIndexCountMatchesFilter", fn := fun _ => fun
  | [d1, d2, d3] => { results := [.lit (.bool true)], args := [d1, d2, d3] }
  | _ => none }
def fnKeyIndexCountMatchesFilterRow : OpenClaim := { program := "qxb6617753a", sum := "09a8be652c9a9e51c98b2223bc3be2d336d4969b34ac0c997046814ebb0efe47", func := "example.com/vestibule/vestibule/zzlaws_internal_store_b1.FnKeyIndexCountMatchesFilter", spec := "fnKeyIndexCountMatchesFilter", inPlace := ["internal/bytealg.abigen_runtime_cmpstring"], unfollowed := true, recurses := true, apart := false }
def FnKeyIndexCountMatchesFilterSaid : Prop := fnKeyIndexCountMatchesFilterRow.holds Try.pinned (OpenSpec.ofChange fnKeyIndexCountMatchesFilterSpec)

/-- ITS FALSE NEIGHBOUR: 'it returns false'. Refute it at one input. -/
def fnKeyIndexCountMatchesFilterWrong : ChangeSpec := { name := "fnKeyIndexCountMatchesFilter", fn := fun _ => fun
  | [d1, d2, d3] => { results := [.lit (.bool false)], args := [d1, d2, d3] }
  | _ => none }
def FnKeyIndexCountMatchesFilterWrongFalsely : Prop := fnKeyIndexCountMatchesFilterRow.holds Try.pinned (OpenSpec.ofChange fnKeyIndexCountMatchesFilterWrong)

end Rows
end Go.Proofs.Qxb6617753a
