/-
  No cell of these rows narrows 'for every input' (looked for: loops, veiled, ifaces, maps, wideKeys, modest, calm, conditions, laid).
  DERIVED. THE GIVEN ROWS OF THIS SEAT. 2 by the template 'for every input the law returns true; each argument reads behind the call as it read before'; 0 by the template 'total and deterministic' (their statements: Qxb6628252aTotals.lean).
  GIVEN WITH THE SEED: the statements are not yours to turn. If you find one false, say at which input.
  Laid BY PROGRAM, IN A SANDBOX (cutbox-rows.mjs): the forced cells as the released guide's own fill.sh prints them over the translation 12e7a196fbee947c… (all of the seat's roots in one cut). By AI agents, Wed Nov 11 2026. No macro, syntax, notation, axiom, sorry.
-/
import Derived.Test.Qxb6628252aChecked
import GoSem.Claim
import GoSem.ClaimJoined
import GoSem.ClaimMapViews
import Derived.JoinedTies
import Derived.KernelRfl
namespace Go.Proofs.Qxb6628252a
/- THE CELL 'sum', in the pinned program and in every row, IS THE sha256 OF THE DUMP (.gsa) THAT Qxb6628252aProg.lean LOADS. Nothing in Lean hashes anything: it is a label: what it is worth is what the hold of that sum in a sandbox is worth. -/
noncomputable def Try.pinned : Pinned := { name := "qxb6628252a", sum := "12e7a196fbee947c3f8422007724a74b9e8d41ff40c9849ed4ae92cf342ebf2a", checked := Try.checked }
namespace Rows
def none {H : Type} : Left H := { results := [], args := [] }

/-- 'zzlaws_graph_b1.FnOrderMatchesLowestReadyScan': WHATEVER THE INPUT: true; the input reads as it did. -/
def fnOrderMatchesLowestReadyScanSpec : ChangeSpec := { name := "fnOrderMatchesLowestReadyScan", fn := fun _ => fun
  | [d] => { results := [.lit (.bool true)], args := [d] }
  | _ => none }
def fnOrderMatchesLowestReadyScanRow : OpenClaim := { program := "qxb6628252a", sum := "12e7a196fbee947c3f8422007724a74b9e8d41ff40c9849ed4ae92cf342ebf2a", func := "example.com/stackwright/stackwright/zzlaws_graph_b1.FnOrderMatchesLowestReadyScan", spec := "fnOrderMatchesLowestReadyScan", unfollowed := true, recurses := true, apart := false }
def FnOrderMatchesLowestReadyScanSaid : Prop := fnOrderMatchesLowestReadyScanRow.holds Try.pinned (OpenSpec.ofChange fnOrderMatchesLowestReadyScanSpec)

/-- ITS FALSE NEIGHBOUR: 'it returns false'. Refute it at one input. -/
def fnOrderMatchesLowestReadyScanWrong : ChangeSpec := { name := "fnOrderMatchesLowestReadyScan", fn := fun _ => fun
  | [d] => { results := [.lit (.bool false)], args := [d] }
  | _ => none }
def FnOrderMatchesLowestReadyScanWrongFalsely : Prop := fnOrderMatchesLowestReadyScanRow.holds Try.pinned (OpenSpec.ofChange fnOrderMatchesLowestReadyScanWrong)

/-- 'zzlaws_graph_b1.FnOrderNewLastNodeComesLastOrNever': WHATEVER THE INPUT: true; the input reads as it did. -/
def fnOrderNewLastNodeComesLastOrNeverSpec : ChangeSpec := { name := "fnOrderNewLastNodeComesLastOrNever", fn := fun _ => fun
  | [d1, d2] => { results := [.lit (.bool true)], args := [d1, d2] }
  | _ => none }
def fnOrderNewLastNodeComesLastOrNeverRow : OpenClaim := { program := "qxb6628252a", sum := "12e7a196fbee947c3f8422007724a74b9e8d41ff40c9849ed4ae92cf342ebf2a", func := "example.com/stackwright/stackwright/zzlaws_graph_b1.FnOrderNewLastNodeComesLastOrNever", spec := "fnOrderNewLastNodeComesLastOrNever", unfollowed := true, recurses := true, apart := false }
def FnOrderNewLastNodeComesLastOrNeverSaid : Prop := fnOrderNewLastNodeComesLastOrNeverRow.holds Try.pinned (OpenSpec.ofChange fnOrderNewLastNodeComesLastOrNeverSpec)

/-- ITS FALSE NEIGHBOUR: 'it returns false'. Refute it at one input. -/
def fnOrderNewLastNodeComesLastOrNeverWrong : ChangeSpec := { name := "fnOrderNewLastNodeComesLastOrNever", fn := fun _ => fun
  | [d1, d2] => { results := [.lit (.bool false)], args := [d1, d2] }
  | _ => none }
def FnOrderNewLastNodeComesLastOrNeverWrongFalsely : Prop := fnOrderNewLastNodeComesLastOrNeverRow.holds Try.pinned (OpenSpec.ofChange fnOrderNewLastNodeComesLastOrNeverWrong)

end Rows
end Go.Proofs.Qxb6628252a
