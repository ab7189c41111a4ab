/-
  No cell of these rows narrows 'for every input' (looked for: loops, veiled, ifaces, maps, wideKeys, modest, calm, conditions, laid).
  DERIVED. THE GIVEN ROWS OF THIS SEAT. 2 by the template 'for every input the law returns true; each argument reads behind the call as it read before'; 0 by the template 'total and deterministic' (their statements: Qxb6630601aTotals.lean).
  GIVEN WITH THE SEED: the statements are not yours to turn. If you find one false, say at which input.
  Laid BY PROGRAM, IN A SANDBOX (cutbox-rows.mjs): the forced cells as the released guide's own fill.sh prints them over the translation 84c8b7c078698dca… (all of the seat's roots in one cut). By AI agents, Wed Nov 11 2026. No macro, syntax, notation, axiom, sorry.
-/
import Derived.Test.Qxb6630601aChecked
import GoSem.Claim
import GoSem.ClaimJoined
import GoSem.ClaimMapViews
import Derived.JoinedTies
import Derived.KernelRfl
namespace Go.Proofs.Qxb6630601a
/- THE CELL 'sum', in the pinned program and in every row, IS THE sha256 OF THE DUMP (.gsa) THAT Qxb6630601aProg.lean LOADS. Nothing in Lean hashes anything: it is a label: what it is worth is what the hold of that sum in a sandbox is worth. -/
noncomputable def Try.pinned : Pinned := { name := "qxb6630601a", sum := "84c8b7c078698dca00dda0ed87de25bf9ec1c7433209e581565d371f71b812cf", checked := Try.checked }
namespace Rows
def none {H : Type} : Left H := { results := [], args := [] }

/-- 'zzlaws_internal_tbcd_b1.FnAppendSplitsAtEvenCut': WHATEVER THE INPUT: true; the input reads as it did. -/
def fnAppendSplitsAtEvenCutSpec : ChangeSpec := { name := "fnAppendSplitsAtEvenCut", fn := fun _ => fun
  | [d1, d2, d3] => { results := [.lit (.bool true)], args := [d1, d2, d3] }
  | _ => none }
def fnAppendSplitsAtEvenCutRow : OpenClaim := { program := "qxb6630601a", sum := "84c8b7c078698dca00dda0ed87de25bf9ec1c7433209e581565d371f71b812cf", func := "example.com/roamline/roamline/zzlaws_internal_tbcd_b1.FnAppendSplitsAtEvenCut", spec := "fnAppendSplitsAtEvenCut", apart := false }
def FnAppendSplitsAtEvenCutSaid : Prop := fnAppendSplitsAtEvenCutRow.holds Try.pinned (OpenSpec.ofChange fnAppendSplitsAtEvenCutSpec)

/-- ITS FALSE NEIGHBOUR: 'it returns false'. Refute it at one input. -/
def fnAppendSplitsAtEvenCutWrong : ChangeSpec := { name := "fnAppendSplitsAtEvenCut", fn := fun _ => fun
  | [d1, d2, d3] => { results := [.lit (.bool false)], args := [d1, d2, d3] }
  | _ => none }
def FnAppendSplitsAtEvenCutWrongFalsely : Prop := fnAppendSplitsAtEvenCutRow.holds Try.pinned (OpenSpec.ofChange fnAppendSplitsAtEvenCutWrong)

/-- 'zzlaws_internal_tbcd_b1.FnAppendKeepsPrefixAndDecodesBack': WHATEVER THE INPUT: true; the input reads as it did. -/
def fnAppendKeepsPrefixAndDecodesBackSpec : ChangeSpec := { name := "fnAppendKeepsPrefixAndDecodesBack", fn := fun _ => fun
  | [d1, d2] => { results := [.lit (.bool true)], args := [d1, d2] }
  | _ => none }
def fnAppendKeepsPrefixAndDecodesBackRow : OpenClaim := { program := "qxb6630601a", sum := "84c8b7c078698dca00dda0ed87de25bf9ec1c7433209e581565d371f71b812cf", func := "example.com/roamline/roamline/zzlaws_internal_tbcd_b1.FnAppendKeepsPrefixAndDecodesBack", spec := "fnAppendKeepsPrefixAndDecodesBack", apart := false }
def FnAppendKeepsPrefixAndDecodesBackSaid : Prop := fnAppendKeepsPrefixAndDecodesBackRow.holds Try.pinned (OpenSpec.ofChange fnAppendKeepsPrefixAndDecodesBackSpec)

/-- ITS FALSE NEIGHBOUR: 'it returns false'. Refute it at one input. -/
def fnAppendKeepsPrefixAndDecodesBackWrong : ChangeSpec := { name := "fnAppendKeepsPrefixAndDecodesBack", fn := fun _ => fun
  | [d1, d2] => { results := [.lit (.bool false)], args := [d1, d2] }
  | _ => none }
def FnAppendKeepsPrefixAndDecodesBackWrongFalsely : Prop := fnAppendKeepsPrefixAndDecodesBackRow.holds Try.pinned (OpenSpec.ofChange fnAppendKeepsPrefixAndDecodesBackWrong)

end Rows
end Go.Proofs.Qxb6630601a
