/-
  No cell of these rows narrows 'for every input' (looked for: loops, veiled, ifaces, maps, wideKeys, modest, calm, conditions, laid).
  DERIVED. THE GIVEN ROWS OF THIS SEAT. 2 by the template 'for every input the law returns true; each argument reads behind the call as it read before'; 0 by the template 'total and deterministic' (their statements: Qxb6630559aTotals.lean).
  GIVEN WITH THE SEED: the statements are not yours to turn. If you find one false, say at which input.
  Laid BY PROGRAM, IN A SANDBOX (cutbox-rows.mjs): the forced cells as the released guide's own fill.sh prints them over the translation 8c1f2a9d82f31d9d… (all of the seat's roots in one cut). By AI agents, Wed Nov 11 2026. No macro, syntax, notation, axiom, sorry.
-/
import Derived.Test.Qxb6630559aChecked
import GoSem.Claim
import GoSem.ClaimJoined
import GoSem.ClaimMapViews
import Derived.JoinedTies
import Derived.KernelRfl
namespace Go.Proofs.Qxb6630559a
/- THE CELL 'sum', in the pinned program and in every row, IS THE sha256 OF THE DUMP (.gsa) THAT Qxb6630559aProg.lean LOADS. Nothing in Lean hashes anything: it is a label: what it is worth is what the hold of that sum in a sandbox is worth. -/
noncomputable def Try.pinned : Pinned := { name := "qxb6630559a", sum := "8c1f2a9d82f31d9dc8b6e1f7b289a05b7d84522a8c58bc850457d5cf5112c689", checked := Try.checked }
namespace Rows
def none {H : Type} : Left H := { results := [], args := [] }

/-- 'zzlaws_label_b1.FnSelectorStringSplitsAtAnyCut': WHATEVER THE INPUT: true; the input reads as it did. -/
def fnSelectorStringSplitsAtAnyCutSpec : ChangeSpec := { name := "fnSelectorStringSplitsAtAnyCut", fn := fun _ => fun
  | [d1, d2] => { results := [.lit (.bool true)], args := [d1, d2] }
  | _ => none }
def fnSelectorStringSplitsAtAnyCutRow : OpenClaim := { program := "qxb6630559a", sum := "8c1f2a9d82f31d9dc8b6e1f7b289a05b7d84522a8c58bc850457d5cf5112c689", func := "example.com/gancap/gancap/zzlaws_label_b1.FnSelectorStringSplitsAtAnyCut", spec := "fnSelectorStringSplitsAtAnyCut", inPlace := ["internal/abi.NoEscape", "internal/bytealg.MakeNoZero"], apart := false }
def FnSelectorStringSplitsAtAnyCutSaid : Prop := fnSelectorStringSplitsAtAnyCutRow.holds Try.pinned (OpenSpec.ofChange fnSelectorStringSplitsAtAnyCutSpec)

/-- ITS FALSE NEIGHBOUR: 'it returns false'. Refute it at one input. -/
def fnSelectorStringSplitsAtAnyCutWrong : ChangeSpec := { name := "fnSelectorStringSplitsAtAnyCut", fn := fun _ => fun
  | [d1, d2] => { results := [.lit (.bool false)], args := [d1, d2] }
  | _ => none }
def FnSelectorStringSplitsAtAnyCutWrongFalsely : Prop := fnSelectorStringSplitsAtAnyCutRow.holds Try.pinned (OpenSpec.ofChange fnSelectorStringSplitsAtAnyCutWrong)

/-- 'zzlaws_label_b1.FnSelectorStringInsertAnyPlace': WHATEVER THE INPUT: true; the input reads as it did. -/
def fnSelectorStringInsertAnyPlaceSpec : ChangeSpec := { name := "fnSelectorStringInsertAnyPlace", fn := fun _ => fun
  | [d1, d2, d3, d4, d5] => { results := [.lit (.bool true)], args := [d1, d2, d3, d4, d5] }
  | _ => none }
def fnSelectorStringInsertAnyPlaceRow : OpenClaim := { program := "qxb6630559a", sum := "8c1f2a9d82f31d9dc8b6e1f7b289a05b7d84522a8c58bc850457d5cf5112c689", func := "example.com/gancap/gancap/zzlaws_label_b1.FnSelectorStringInsertAnyPlace", spec := "fnSelectorStringInsertAnyPlace", inPlace := ["internal/abi.NoEscape", "internal/bytealg.MakeNoZero"], apart := false }
def FnSelectorStringInsertAnyPlaceSaid : Prop := fnSelectorStringInsertAnyPlaceRow.holds Try.pinned (OpenSpec.ofChange fnSelectorStringInsertAnyPlaceSpec)

/-- ITS FALSE NEIGHBOUR: 'it returns false'. Refute it at one input. -/
def fnSelectorStringInsertAnyPlaceWrong : ChangeSpec := { name := "fnSelectorStringInsertAnyPlace", fn := fun _ => fun
  | [d1, d2, d3, d4, d5] => { results := [.lit (.bool false)], args := [d1, d2, d3, d4, d5] }
  | _ => none }
def FnSelectorStringInsertAnyPlaceWrongFalsely : Prop := fnSelectorStringInsertAnyPlaceRow.holds Try.pinned (OpenSpec.ofChange fnSelectorStringInsertAnyPlaceWrong)

end Rows
end Go.Proofs.Qxb6630559a
