/-
  No cell of these rows narrows 'for every input' (looked for: loops, veiled, ifaces, maps, wideKeys, modest, calm, conditions, laid).
  DERIVED. THE GIVEN ROWS OF THIS SEAT. 1 by the template 'for every input the law returns true; each argument reads behind the call as it read before'; 0 by the template 'total and deterministic' (their statements: Qxb6628367aTotals.lean).
  GIVEN WITH THE SEED: the statements are not yours to turn. If you find one false, say at which input.
  Laid BY PROGRAM, IN A SANDBOX (cutbox-rows.mjs): the forced cells as the released guide's own fill.sh prints them over the translation 160ecbbdd2d55b12… (all of the seat's roots in one cut). By AI agents, Wed Nov 11 2026. No macro, syntax, notation, axiom, sorry.
-/
import Derived.Test.Qxb6628367aChecked
import GoSem.Claim
import GoSem.ClaimJoined
import GoSem.ClaimMapViews
import Derived.JoinedTies
import Derived.KernelRfl
namespace Go.Proofs.Qxb6628367a
/- THE CELL 'sum', in the pinned program and in every row, IS THE sha256 OF THE DUMP (.gsa) THAT Qxb6628367aProg.lean LOADS. Nothing in Lean hashes anything: it is a label: what it is worth is what the hold of that sum in a sandbox is worth. -/
noncomputable def Try.pinned : Pinned := { name := "qxb6628367a", sum := "160ecbbdd2d55b128c9fb29eeb1135dc644469fb4e5a40a8fd2fb8f4391507c1", checked := Try.checked }
namespace Rows
def none {H : Type} : Left H := { results := [], args := [] }

/-- 'zzlaws_internal_qlog_b1.FnGetJoinLastWins': WHATEVER THE INPUT: true; the input reads as it did. -/
def fnGetJoinLastWinsSpec : ChangeSpec := { name := "fnGetJoinLastWins", fn := fun _ => fun
  | [d1, d2, d3, d4] => { results := [.lit (.bool true)], args := [d1, d2, d3, d4] }
  | _ => none }
def fnGetJoinLastWinsRow : OpenClaim := { program := "qxb6628367a", sum := "160ecbbdd2d55b128c9fb29eeb1135dc644469fb4e5a40a8fd2fb8f4391507c1", func := "example.com/tracequill/tracequill/zzlaws_internal_qlog_b1.FnGetJoinLastWins", spec := "fnGetJoinLastWins", apart := false }
def FnGetJoinLastWinsSaid : Prop := fnGetJoinLastWinsRow.holds Try.pinned (OpenSpec.ofChange fnGetJoinLastWinsSpec)

/-- ITS FALSE NEIGHBOUR: 'it returns false'. Refute it at one input. -/
def fnGetJoinLastWinsWrong : ChangeSpec := { name := "fnGetJoinLastWins", fn := fun _ => fun
  | [d1, d2, d3, d4] => { results := [.lit (.bool false)], args := [d1, d2, d3, d4] }
  | _ => none }
def FnGetJoinLastWinsWrongFalsely : Prop := fnGetJoinLastWinsRow.holds Try.pinned (OpenSpec.ofChange fnGetJoinLastWinsWrong)

end Rows
end Go.Proofs.Qxb6628367a
