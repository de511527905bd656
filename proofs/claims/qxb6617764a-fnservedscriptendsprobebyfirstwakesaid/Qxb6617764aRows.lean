/-
  No cell of these rows narrows 'for every input' (looked for: loops, veiled, ifaces, maps, wideKeys, modest, calm, conditions, laid).
  DERIVED. THE GIVEN ROWS OF THIS SEAT. 2 by the template 'for every input the law returns true; each argument reads behind the call as it read before'; 0 by the template 'total and deterministic' (their statements: Qxb6617764aTotals.lean).
  GIVEN WITH THE SEED: the statements are not yours to turn. If you find one false, say at which input.
  Laid BY PROGRAM, IN A SANDBOX (cutbox-rows.mjs): the forced cells as the released guide's own fill.sh prints them over the translation cf147dbc3e133b15… (all of the seat's roots in one cut). By AI agents, Wed Nov 11 2026. No macro, syntax, notation, axiom, sorry.
-/
import Derived.Test.Qxb6617764aChecked
import GoSem.Claim
import GoSem.ClaimJoined
import GoSem.ClaimMapViews
import Derived.JoinedTies
import Derived.KernelRfl
namespace Go.Proofs.Qxb6617764a
/- THE CELL 'sum', in the pinned program and in every row, IS THE sha256 OF THE DUMP (.gsa) THAT Qxb6617764aProg.lean LOADS. Nothing in Lean hashes anything: it is a label: what it is worth is what the hold of that sum in a sandbox is worth. -/
noncomputable def Try.pinned : Pinned := { name := "qxb6617764a", sum := "cf147dbc3e133b15463a151c01d81fd49ff7c76186b42bcaa517f87720c219a8", checked := Try.checked }
namespace Rows
def none {H : Type} : Left H := { results := [], args := [] }

/-- 'zzlaws_root_b1.FnServedScriptEndsProbeByFirstWake': WHATEVER THE INPUT: true; the input reads as it did. -/
def fnServedScriptEndsProbeByFirstWakeSpec : ChangeSpec := { name := "fnServedScriptEndsProbeByFirstWake", fn := fun _ => fun
  | [d1, d2, d3, d4, d5] => { results := [.lit (.bool true)], args := [d1, d2, d3, d4, d5] }
  | _ => none }
def fnServedScriptEndsProbeByFirstWakeRow : OpenClaim := { program := "qxb6617764a", sum := "cf147dbc3e133b15463a151c01d81fd49ff7c76186b42bcaa517f87720c219a8", func := "example.com/bullpen/bullpen/zzlaws_root_b1.FnServedScriptEndsProbeByFirstWake", spec := "fnServedScriptEndsProbeByFirstWake", apart := false }
def FnServedScriptEndsProbeByFirstWakeSaid : Prop := fnServedScriptEndsProbeByFirstWakeRow.holds Try.pinned (OpenSpec.ofChange fnServedScriptEndsProbeByFirstWakeSpec)

/-- ITS FALSE NEIGHBOUR: 'it returns false'. Refute it at one input. -/
def fnServedScriptEndsProbeByFirstWakeWrong : ChangeSpec := { name := "fnServedScriptEndsProbeByFirstWake", fn := fun _ => fun
  | [d1, d2, d3, d4, d5] => { results := [.lit (.bool false)], args := [d1, d2, d3, d4, d5] }
  | _ => none }
def FnServedScriptEndsProbeByFirstWakeWrongFalsely : Prop := fnServedScriptEndsProbeByFirstWakeRow.holds Try.pinned (OpenSpec.ofChange fnServedScriptEndsProbeByFirstWakeWrong)

/-- 'zzlaws_root_b1.FnServedBackoffDoublesAndWinResets': WHATEVER THE INPUT: true; the input reads as it did. -/
def fnServedBackoffDoublesAndWinResetsSpec : ChangeSpec := { name := "fnServedBackoffDoublesAndWinResets", fn := fun _ => fun
  | [d1, d2, d3] => { results := [.lit (.bool true)], args := [d1, d2, d3] }
  | _ => none }
def fnServedBackoffDoublesAndWinResetsRow : OpenClaim := { program := "qxb6617764a", sum := "cf147dbc3e133b15463a151c01d81fd49ff7c76186b42bcaa517f87720c219a8", func := "example.com/bullpen/bullpen/zzlaws_root_b1.FnServedBackoffDoublesAndWinResets", spec := "fnServedBackoffDoublesAndWinResets", apart := false }
def FnServedBackoffDoublesAndWinResetsSaid : Prop := fnServedBackoffDoublesAndWinResetsRow.holds Try.pinned (OpenSpec.ofChange fnServedBackoffDoublesAndWinResetsSpec)

/-- ITS FALSE NEIGHBOUR: 'it returns false'. Refute it at one input. -/
def fnServedBackoffDoublesAndWinResetsWrong : ChangeSpec := { name := "fnServedBackoffDoublesAndWinResets", fn := fun _ => fun
  | [d1, d2, d3] => { results := [.lit (.bool false)], args := [d1, d2, d3] }
  | _ => none }
def FnServedBackoffDoublesAndWinResetsWrongFalsely : Prop := fnServedBackoffDoublesAndWinResetsRow.holds Try.pinned (OpenSpec.ofChange fnServedBackoffDoublesAndWinResetsWrong)

end Rows
end Go.Proofs.Qxb6617764a
