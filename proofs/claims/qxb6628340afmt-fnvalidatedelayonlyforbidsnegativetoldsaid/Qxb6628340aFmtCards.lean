/-
  DERIVED. GIVEN WITH THE SEED: THE CARDS: each row of Qxb6628340aFmtRows.lean that lists a variable, with what it lists TIED to the program's text (the seventh form; the later family's looks); each row that meets fmt, with fmt's text TOLD by the authors' own Lean function (tested against real Go, not proved from fmt's source: count such statements apart). THE CARD IS WHAT COUNTS. Prove the row's statement (the work); the ties are given (Qxb6628340aFmtTie.lean); close each card by the builder's one call (the guide's Derived/Test/ToyasCard.lean, 'card_holds'). Laid BY PROGRAM, IN A SANDBOX (cutbox-door.mjs). By AI agents, Wed Nov 11 2026. No macro, syntax, notation, axiom, sorry.
-/
import Derived.Test.Qxb6628340aFmtRows
import GoSem.ClaimSeven
namespace Go.Proofs.Qxb6628340aFmt
namespace Rows

/-- THE TOLD CARD OF 'zzlaws_pkg_stub_b1.FnValidateDelayOnlyForbidsNegative'. -/
def fnValidateDelayOnlyForbidsNegativeCard : Claim7 := { stood := { row := fnValidateDelayOnlyForbidsNegativeRow, standIns := [], harness := (true, "c5deb0982cbfe563fbfce7a8bd242c93589666c252d7ddce278fdf85c96f8afd"), looks := false }, told := true, goes := false }
def FnValidateDelayOnlyForbidsNegativeToldSaid : Prop := Claim7.holds Tryf.pinned (.plain (OpenSpec.ofChange fnValidateDelayOnlyForbidsNegativeSpec)) fnValidateDelayOnlyForbidsNegativeCard
/-- ITS FALSE NEIGHBOUR. Refute it at one input. -/
def FnValidateDelayOnlyForbidsNegativeToldWrongFalsely : Prop := Claim7.holds Tryf.pinned (.plain (OpenSpec.ofChange fnValidateDelayOnlyForbidsNegativeWrong)) fnValidateDelayOnlyForbidsNegativeCard

/-- THE TOLD CARD OF 'zzlaws_pkg_stub_b1.FnValidateContentStatusExclusive'. -/
def fnValidateContentStatusExclusiveCard : Claim7 := { stood := { row := fnValidateContentStatusExclusiveRow, standIns := [], harness := (true, "c5deb0982cbfe563fbfce7a8bd242c93589666c252d7ddce278fdf85c96f8afd"), looks := false }, told := true, goes := false }
def FnValidateContentStatusExclusiveToldSaid : Prop := Claim7.holds Tryf.pinned (.plain (OpenSpec.ofChange fnValidateContentStatusExclusiveSpec)) fnValidateContentStatusExclusiveCard
/-- ITS FALSE NEIGHBOUR. Refute it at one input. -/
def FnValidateContentStatusExclusiveToldWrongFalsely : Prop := Claim7.holds Tryf.pinned (.plain (OpenSpec.ofChange fnValidateContentStatusExclusiveWrong)) fnValidateContentStatusExclusiveCard
end Rows
end Go.Proofs.Qxb6628340aFmt
