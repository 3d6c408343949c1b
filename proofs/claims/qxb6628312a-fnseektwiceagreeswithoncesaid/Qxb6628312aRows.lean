/-
  No cell of these rows narrows 'for every input' (looked for: loops, veiled, ifaces, maps, wideKeys, modest, calm, conditions, laid).
  DERIVED. THE GIVEN ROWS OF THIS SEAT. 2 by the template 'for every input the law returns true; each argument reads behind the call as it read before'; 0 by the template 'total and deterministic' (their statements: Qxb6628312aTotals.lean).
  GIVEN WITH THE SEED: the statements are not yours to turn. If you find one false, say at which input.
  Laid BY PROGRAM, IN A SANDBOX (cutbox-rows.mjs): the forced cells as the released guide's own fill.sh prints them over the translation 942b82bb85954042… (all of the seat's roots in one cut). By AI agents, Wed Nov 11 2026. No macro, syntax, notation, axiom, sorry.
-/
import Derived.Test.Qxb6628312aChecked
import GoSem.Claim
import GoSem.ClaimJoined
import GoSem.ClaimMapViews
import Derived.JoinedTies
import Derived.KernelRfl
namespace Go.Proofs.Qxb6628312a
/- THE CELL 'sum', in the pinned program and in every row, IS THE sha256 OF THE DUMP (.gsa) THAT Qxb6628312aProg.lean LOADS. Nothing in Lean hashes anything: it is a label: what it is worth is what the hold of that sum in a sandbox is worth. -/
noncomputable def Try.pinned : Pinned := { name := "qxb6628312a", sum := "942b82bb859540429b2a26f5add59b37f273b3b339c459dcb4b6e434a47acfd4", checked := Try.checked }
namespace Rows
def none {H : Type} : Left H := { results := [], args := [] }

/-- 'zzlaws_jsonscan_b1.FnSeekLandsAtOffset': WHATEVER THE INPUT: true; the input reads as it did. -/
def fnSeekLandsAtOffsetSpec : ChangeSpec := { name := "fnSeekLandsAtOffset", fn := fun _ => fun
  | [d1, d2, d3, d4, d5] => { results := [.lit (.bool true)], args := [d1, d2, d3, d4, d5] }
  | _ => none }
def fnSeekLandsAtOffsetRow : OpenClaim := { program := "qxb6628312a", sum := "942b82bb859540429b2a26f5add59b37f273b3b339c459dcb4b6e434a47acfd4", func := "example.com/portcullis/portcullis/zzlaws_jsonscan_b1.FnSeekLandsAtOffset", spec := "fnSeekLandsAtOffset", apart := false }
def FnSeekLandsAtOffsetSaid : Prop := fnSeekLandsAtOffsetRow.holds Try.pinned (OpenSpec.ofChange fnSeekLandsAtOffsetSpec)

/-- ITS FALSE NEIGHBOUR: 'it returns false'. Refute it at one input. -/
def fnSeekLandsAtOffsetWrong : ChangeSpec := { name := "fnSeekLandsAtOffset", fn := fun _ => fun
  | [d1, d2, d3, d4, d5] => { results := [.lit (.bool false)], args := [d1, d2, d3, d4, d5] }
  | _ => none }
def FnSeekLandsAtOffsetWrongFalsely : Prop := fnSeekLandsAtOffsetRow.holds Try.pinned (OpenSpec.ofChange fnSeekLandsAtOffsetWrong)

/-- 'zzlaws_jsonscan_b1.FnSeekTwiceAgreesWithOnce': WHATEVER THE INPUT: true; the input reads as it did. -/
def fnSeekTwiceAgreesWithOnceSpec : ChangeSpec := { name := "fnSeekTwiceAgreesWithOnce", fn := fun _ => fun
  | [d1, d2, d3, d4, d5, d6, d7, d8] => { results := [.lit (.bool true)], args := [d1, d2, d3, d4, d5, d6, d7, d8] }
  | _ => none }
def fnSeekTwiceAgreesWithOnceRow : OpenClaim := { program := "qxb6628312a", sum := "942b82bb859540429b2a26f5add59b37f273b3b339c459dcb4b6e434a47acfd4", func := "example.com/portcullis/portcullis/zzlaws_jsonscan_b1.FnSeekTwiceAgreesWithOnce", spec := "fnSeekTwiceAgreesWithOnce", apart := false }
def FnSeekTwiceAgreesWithOnceSaid : Prop := fnSeekTwiceAgreesWithOnceRow.holds Try.pinned (OpenSpec.ofChange fnSeekTwiceAgreesWithOnceSpec)

/-- ITS FALSE NEIGHBOUR: 'it returns false'. Refute it at one input. -/
def fnSeekTwiceAgreesWithOnceWrong : ChangeSpec := { name := "fnSeekTwiceAgreesWithOnce", fn := fun _ => fun
  | [d1, d2, d3, d4, d5, d6, d7, d8] => { results := [.lit (.bool false)], args := [d1, d2, d3, d4, d5, d6, d7, d8] }
  | _ => none }
def FnSeekTwiceAgreesWithOnceWrongFalsely : Prop := fnSeekTwiceAgreesWithOnceRow.holds Try.pinned (OpenSpec.ofChange fnSeekTwiceAgreesWithOnceWrong)

end Rows
end Go.Proofs.Qxb6628312a
