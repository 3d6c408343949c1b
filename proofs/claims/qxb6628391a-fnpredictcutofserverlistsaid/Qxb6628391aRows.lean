/-
  No cell of these rows narrows 'for every input' (looked for: loops, veiled, ifaces, maps, wideKeys, modest, calm, conditions, laid).
  DERIVED. THE GIVEN ROWS OF THIS SEAT. 2 by the template 'for every input the law returns true; each argument reads behind the call as it read before'; 0 by the template 'total and deterministic' (their statements: Qxb6628391aTotals.lean).
  GIVEN WITH THE SEED: the statements are not yours to turn. If you find one false, say at which input.
  Laid BY PROGRAM, IN A SANDBOX (cutbox-rows.mjs): the forced cells as the released guide's own fill.sh prints them over the translation 1e30ce2738c4b531… (all of the seat's roots in one cut). By AI agents, Wed Nov 11 2026. No macro, syntax, notation, axiom, sorry.
-/
import Derived.Test.Qxb6628391aChecked
import GoSem.Claim
import GoSem.ClaimJoined
import GoSem.ClaimMapViews
import Derived.JoinedTies
import Derived.KernelRfl
namespace Go.Proofs.Qxb6628391a
/- THE CELL 'sum', in the pinned program and in every row, IS THE sha256 OF THE DUMP (.gsa) THAT Qxb6628391aProg.lean LOADS. Nothing in Lean hashes anything: it is a label: what it is worth is what the hold of that sum in a sandbox is worth. -/
noncomputable def Try.pinned : Pinned := { name := "qxb6628391a", sum := "1e30ce2738c4b531abefbb4e5444b0277e0e9bd9eb5f1cc8bd2541f72c51c684", checked := Try.checked }
namespace Rows
def none {H : Type} : Left H := { results := [], args := [] }

/-- 'zzlaws_groups_b1.FnPredictAddOneSupported': WHATEVER THE INPUT: true; the input reads as it did. -/
def fnPredictAddOneSupportedSpec : ChangeSpec := { name := "fnPredictAddOneSupported", fn := fun _ => fun
  | [d1, d2, d3, d4] => { results := [.lit (.bool true)], args := [d1, d2, d3, d4] }
  | _ => none }
def fnPredictAddOneSupportedRow : OpenClaim := { program := "qxb6628391a", sum := "1e30ce2738c4b531abefbb4e5444b0277e0e9bd9eb5f1cc8bd2541f72c51c684", func := "example.com/limber/limber/zzlaws_groups_b1.FnPredictAddOneSupported", spec := "fnPredictAddOneSupported", apart := false }
def FnPredictAddOneSupportedSaid : Prop := fnPredictAddOneSupportedRow.holds Try.pinned (OpenSpec.ofChange fnPredictAddOneSupportedSpec)

/-- ITS FALSE NEIGHBOUR: 'it returns false'. Refute it at one input. -/
def fnPredictAddOneSupportedWrong : ChangeSpec := { name := "fnPredictAddOneSupported", fn := fun _ => fun
  | [d1, d2, d3, d4] => { results := [.lit (.bool false)], args := [d1, d2, d3, d4] }
  | _ => none }
def FnPredictAddOneSupportedWrongFalsely : Prop := fnPredictAddOneSupportedRow.holds Try.pinned (OpenSpec.ofChange fnPredictAddOneSupportedWrong)

/-- 'zzlaws_groups_b1.FnPredictCutOfServerList': WHATEVER THE INPUT: true; the input reads as it did. -/
def fnPredictCutOfServerListSpec : ChangeSpec := { name := "fnPredictCutOfServerList", fn := fun _ => fun
  | [d1, d2, d3] => { results := [.lit (.bool true)], args := [d1, d2, d3] }
  | _ => none }
def fnPredictCutOfServerListRow : OpenClaim := { program := "qxb6628391a", sum := "1e30ce2738c4b531abefbb4e5444b0277e0e9bd9eb5f1cc8bd2541f72c51c684", func := "example.com/limber/limber/zzlaws_groups_b1.FnPredictCutOfServerList", spec := "fnPredictCutOfServerList", apart := false }
def FnPredictCutOfServerListSaid : Prop := fnPredictCutOfServerListRow.holds Try.pinned (OpenSpec.ofChange fnPredictCutOfServerListSpec)

/-- ITS FALSE NEIGHBOUR: 'it returns false'. Refute it at one input. -/
def fnPredictCutOfServerListWrong : ChangeSpec := { name := "fnPredictCutOfServerList", fn := fun _ => fun
  | [d1, d2, d3] => { results := [.lit (.bool false)], args := [d1, d2, d3] }
  | _ => none }
def FnPredictCutOfServerListWrongFalsely : Prop := fnPredictCutOfServerListRow.holds Try.pinned (OpenSpec.ofChange fnPredictCutOfServerListWrong)

end Rows
end Go.Proofs.Qxb6628391a
