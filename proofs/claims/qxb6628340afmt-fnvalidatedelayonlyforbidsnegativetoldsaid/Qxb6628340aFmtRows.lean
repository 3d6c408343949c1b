/-
  No cell of these rows narrows 'for every input' (looked for: loops, veiled, ifaces, maps, wideKeys, modest, calm, conditions, laid).
  DERIVED. THE GIVEN ROWS OF THIS SEAT. 2 by the template 'for every input the law returns true; each argument reads behind the call as it read before'; 0 by the template 'total and deterministic' (their statements: Qxb6628340aFmtTotals.lean).
  GIVEN WITH THE SEED: the statements are not yours to turn. If you find one false, say at which input.
  Laid BY PROGRAM, IN A SANDBOX (cutbox-rows.mjs): the forced cells as the released guide's own fill.sh prints them over the translation b8c9ac352a3fe371… (all of the seat's roots in one cut). By AI agents, Wed Nov 11 2026. No macro, syntax, notation, axiom, sorry.
-/
import Derived.Test.Qxb6628340aFmtChecked
import GoSem.Claim
import GoSem.ClaimJoined
import GoSem.ClaimMapViews
import Derived.JoinedTies
import Derived.KernelRfl
namespace Go.Proofs.Qxb6628340aFmt
/- THE CELL 'sum', in the pinned program and in every row, IS THE sha256 OF THE DUMP (.gsa) THAT Qxb6628340aFmtProg.lean LOADS. Nothing in Lean hashes anything: it is a label: what it is worth is what the hold of that sum in a sandbox is worth. -/
noncomputable def Tryf.pinned : Pinned := { name := "qxb6628340afmt", sum := "b8c9ac352a3fe371b68256fafd69810b6cec336041c114ab2be0f2b0a1f4a5f6", checked := Tryf.checked }
namespace Rows
def none {H : Type} : Left H := { results := [], args := [] }

/-- 'zzlaws_pkg_stub_b1.FnValidateDelayOnlyForbidsNegative': WHATEVER THE INPUT: true; the input reads as it did. -/
def fnValidateDelayOnlyForbidsNegativeSpec : ChangeSpec := { name := "fnValidateDelayOnlyForbidsNegative", fn := fun _ => fun
  | [d1, d2, d3, d4, d5] => { results := [.lit (.bool true)], args := [d1, d2, d3, d4, d5] }
  | _ => none }
def fnValidateDelayOnlyForbidsNegativeRow : OpenClaim := { program := "qxb6628340afmt", sum := "b8c9ac352a3fe371b68256fafd69810b6cec336041c114ab2be0f2b0a1f4a5f6", func := "example.com/sayso/sayso/zzlaws_pkg_stub_b1.FnValidateDelayOnlyForbidsNegative", spec := "fnValidateDelayOnlyForbidsNegative", stops := ["fmt.errorf"], inPlace := ["fmt.errorf"], apart := false }
/-- NO THEOREM (fmt's text is open here; it may be false): for the released tool's asking of the row's closed facts alone. THE STATEMENT IS 'FnValidateDelayOnlyForbidsNegativeToldSaid' (Qxb6628340aFmtCards.lean). -/
def FnValidateDelayOnlyForbidsNegativeFormAsk : Prop := fnValidateDelayOnlyForbidsNegativeRow.holds Tryf.pinned (OpenSpec.ofChange fnValidateDelayOnlyForbidsNegativeSpec)

/-- ITS FALSE NEIGHBOUR: 'it returns false'. Refute it at one input. -/
def fnValidateDelayOnlyForbidsNegativeWrong : ChangeSpec := { name := "fnValidateDelayOnlyForbidsNegative", fn := fun _ => fun
  | [d1, d2, d3, d4, d5] => { results := [.lit (.bool false)], args := [d1, d2, d3, d4, d5] }
  | _ => none }
def FnValidateDelayOnlyForbidsNegativeWrongFormAsk : Prop := fnValidateDelayOnlyForbidsNegativeRow.holds Tryf.pinned (OpenSpec.ofChange fnValidateDelayOnlyForbidsNegativeWrong)

/-- 'zzlaws_pkg_stub_b1.FnValidateContentStatusExclusive': WHATEVER THE INPUT: true; the input reads as it did. -/
def fnValidateContentStatusExclusiveSpec : ChangeSpec := { name := "fnValidateContentStatusExclusive", fn := fun _ => fun
  | [d1, d2, d3, d4, d5] => { results := [.lit (.bool true)], args := [d1, d2, d3, d4, d5] }
  | _ => none }
def fnValidateContentStatusExclusiveRow : OpenClaim := { program := "qxb6628340afmt", sum := "b8c9ac352a3fe371b68256fafd69810b6cec336041c114ab2be0f2b0a1f4a5f6", func := "example.com/sayso/sayso/zzlaws_pkg_stub_b1.FnValidateContentStatusExclusive", spec := "fnValidateContentStatusExclusive", stops := ["fmt.errorf"], inPlace := ["fmt.errorf"], apart := false }
/-- NO THEOREM (fmt's text is open here; it may be false): for the released tool's asking of the row's closed facts alone. THE STATEMENT IS 'FnValidateContentStatusExclusiveToldSaid' (Qxb6628340aFmtCards.lean). -/
def FnValidateContentStatusExclusiveFormAsk : Prop := fnValidateContentStatusExclusiveRow.holds Tryf.pinned (OpenSpec.ofChange fnValidateContentStatusExclusiveSpec)

/-- ITS FALSE NEIGHBOUR: 'it returns false'. Refute it at one input. -/
def fnValidateContentStatusExclusiveWrong : ChangeSpec := { name := "fnValidateContentStatusExclusive", fn := fun _ => fun
  | [d1, d2, d3, d4, d5] => { results := [.lit (.bool false)], args := [d1, d2, d3, d4, d5] }
  | _ => none }
def FnValidateContentStatusExclusiveWrongFormAsk : Prop := fnValidateContentStatusExclusiveRow.holds Tryf.pinned (OpenSpec.ofChange fnValidateContentStatusExclusiveWrong)

end Rows
end Go.Proofs.Qxb6628340aFmt
