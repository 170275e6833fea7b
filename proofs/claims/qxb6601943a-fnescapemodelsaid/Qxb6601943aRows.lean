/-
  No cell of these rows narrows 'for every input' (looked for: loops, veiled, ifaces, maps, wideKeys, modest, calm, conditions, laid).
  DERIVED. THE GIVEN ROWS OF THIS SEAT. 3 by the template 'for every input the law returns true; each argument reads behind the call as it read before'; 0 by the template 'total and deterministic' (their statements: Qxb6601943aTotals.lean).
  GIVEN WITH THE SEED: the statements are not yours to turn. If you find one false, say at which input.
  Laid BY PROGRAM, IN A SANDBOX (cutbox-rows.mjs): the forced cells as the released guide's own fill.sh prints them over the translation 47704b8f1ab4e51f… (all of the seat's roots in one cut). By AI agents, Wed Nov 11 2026. No macro, syntax, notation, axiom, sorry.
-/
import Derived.Test.Qxb6601943aChecked
import GoSem.Claim
import GoSem.ClaimJoined
import GoSem.ClaimMapViews
import Derived.JoinedTies
import Derived.KernelRfl
namespace Go.Proofs.Qxb6601943a
/- THE CELL 'sum', in the pinned program and in every row, IS THE sha256 OF THE DUMP (.gsa) THAT Qxb6601943aProg.lean LOADS. Nothing in Lean hashes anything: it is a label: what it is worth is what the hold of that sum in a sandbox is worth. -/
noncomputable def Try.pinned : Pinned := { name := "qxb6601943a", sum := "47704b8f1ab4e51f3007fa81fcea2100b435a6143388f49242b8fae03c60d683", checked := Try.checked }
namespace Rows
def none {H : Type} : Left H := { results := [], args := [] }

/-- 'zzlaws_root_b1.FnEscapeModel': WHATEVER THE INPUT: true; the input reads as it did. -/
def fnEscapeModelSpec : ChangeSpec := { name := "fnEscapeModel", fn := fun _ => fun
  | [d1, d2, d3] => { results := [.lit (.bool true)], args := [d1, d2, d3] }
  | _ => none }
def fnEscapeModelRow : OpenClaim := { program := "qxb6601943a", sum := "47704b8f1ab4e51f3007fa81fcea2100b435a6143388f49242b8fae03c60d683", func := "example.com/request-signer/request-signer/zzlaws_root_b1.FnEscapeModel", spec := "fnEscapeModel", apart := false }
def FnEscapeModelSaid : Prop := fnEscapeModelRow.holds Try.pinned (OpenSpec.ofChange fnEscapeModelSpec)

/-- ITS FALSE NEIGHBOUR: 'it returns false'. Refute it at one input. -/
def fnEscapeModelWrong : ChangeSpec := { name := "fnEscapeModel", fn := fun _ => fun
  | [d1, d2, d3] => { results := [.lit (.bool false)], args := [d1, d2, d3] }
  | _ => none }
def FnEscapeModelWrongFalsely : Prop := fnEscapeModelRow.holds Try.pinned (OpenSpec.ofChange fnEscapeModelWrong)

/-- 'zzlaws_root_b1.FnEscapeEncodeDecodes': WHATEVER THE INPUT: true; the input reads as it did. -/
def fnEscapeEncodeDecodesSpec : ChangeSpec := { name := "fnEscapeEncodeDecodes", fn := fun _ => fun
  | [d1, d2] => { results := [.lit (.bool true)], args := [d1, d2] }
  | _ => none }
def fnEscapeEncodeDecodesRow : OpenClaim := { program := "qxb6601943a", sum := "47704b8f1ab4e51f3007fa81fcea2100b435a6143388f49242b8fae03c60d683", func := "example.com/request-signer/request-signer/zzlaws_root_b1.FnEscapeEncodeDecodes", spec := "fnEscapeEncodeDecodes", apart := false }
def FnEscapeEncodeDecodesSaid : Prop := fnEscapeEncodeDecodesRow.holds Try.pinned (OpenSpec.ofChange fnEscapeEncodeDecodesSpec)

/-- ITS FALSE NEIGHBOUR: 'it returns false'. Refute it at one input. -/
def fnEscapeEncodeDecodesWrong : ChangeSpec := { name := "fnEscapeEncodeDecodes", fn := fun _ => fun
  | [d1, d2] => { results := [.lit (.bool false)], args := [d1, d2] }
  | _ => none }
def FnEscapeEncodeDecodesWrongFalsely : Prop := fnEscapeEncodeDecodesRow.holds Try.pinned (OpenSpec.ofChange fnEscapeEncodeDecodesWrong)

/-- 'zzlaws_root_b1.FnEscapeReescapeStable': WHATEVER THE INPUT: true; the input reads as it did. -/
def fnEscapeReescapeStableSpec : ChangeSpec := { name := "fnEscapeReescapeStable", fn := fun _ => fun
  | [d1, d2, d3, d4] => { results := [.lit (.bool true)], args := [d1, d2, d3, d4] }
  | _ => none }
def fnEscapeReescapeStableRow : OpenClaim := { program := "qxb6601943a", sum := "47704b8f1ab4e51f3007fa81fcea2100b435a6143388f49242b8fae03c60d683", func := "example.com/request-signer/request-signer/zzlaws_root_b1.FnEscapeReescapeStable", spec := "fnEscapeReescapeStable", apart := false }
def FnEscapeReescapeStableSaid : Prop := fnEscapeReescapeStableRow.holds Try.pinned (OpenSpec.ofChange fnEscapeReescapeStableSpec)

/-- ITS FALSE NEIGHBOUR: 'it returns false'. Refute it at one input. -/
def fnEscapeReescapeStableWrong : ChangeSpec := { name := "fnEscapeReescapeStable", fn := fun _ => fun
  | [d1, d2, d3, d4] => { results := [.lit (.bool false)], args := [d1, d2, d3, d4] }
  | _ => none }
def FnEscapeReescapeStableWrongFalsely : Prop := fnEscapeReescapeStableRow.holds Try.pinned (OpenSpec.ofChange fnEscapeReescapeStableWrong)

end Rows
end Go.Proofs.Qxb6601943a
