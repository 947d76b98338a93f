/-
  DERIVED. GIVEN WITH THE SEED: THE CARDS: each row of Qxb6618925aFmtRows.lean that lists a variable, with what it lists TIED to the program's text (the seventh form; the later family's looks); each row that meets fmt, with fmt's text TOLD by the authors' own Lean function (tested against real Go, not proved from fmt's source: count such statements apart). THE CARD IS WHAT COUNTS. Prove the row's statement (the work); the ties are given (Qxb6618925aFmtTie.lean); close each card by the builder's one call (the guide's Derived/Test/ToyasCard.lean, 'card_holds'). Laid BY PROGRAM, IN A SANDBOX (cutbox-door.mjs). By AI agents, Wed Nov 11 2026. No macro, syntax, notation, axiom, sorry.
-/
import Derived.Test.Qxb6618925aFmtRows
import GoSem.ClaimSeven
namespace Go.Proofs.Qxb6618925aFmt
namespace Rows

/-- THE TOLD CARD OF 'zzlaws_root_b1.FnRedirectionStringTailIgnoresOp'. -/
def fnRedirectionStringTailIgnoresOpCard : Claim7 := { stood := { row := fnRedirectionStringTailIgnoresOpRow, standIns := [], harness := (true, "6e4935bd19758bdde06dd8216670e95cb6d0891574d84c4198179529bc636e88"), looks := false }, told := true, goes := false }
def FnRedirectionStringTailIgnoresOpToldSaid : Prop := Claim7.holds Tryf.pinned (.plain (OpenSpec.ofChange fnRedirectionStringTailIgnoresOpSpec)) fnRedirectionStringTailIgnoresOpCard
/-- ITS FALSE NEIGHBOUR. Refute it at one input. -/
def FnRedirectionStringTailIgnoresOpToldWrongFalsely : Prop := Claim7.holds Tryf.pinned (.plain (OpenSpec.ofChange fnRedirectionStringTailIgnoresOpWrong)) fnRedirectionStringTailIgnoresOpCard

/-- THE TOLD CARD OF 'zzlaws_root_b1.FnRedirectionStringTellsFiles'. -/
def fnRedirectionStringTellsFilesCard : Claim7 := { stood := { row := fnRedirectionStringTellsFilesRow, standIns := [], harness := (true, "6e4935bd19758bdde06dd8216670e95cb6d0891574d84c4198179529bc636e88"), looks := false }, told := true, goes := false }
def FnRedirectionStringTellsFilesToldSaid : Prop := Claim7.holds Tryf.pinned (.plain (OpenSpec.ofChange fnRedirectionStringTellsFilesSpec)) fnRedirectionStringTellsFilesCard
/-- ITS FALSE NEIGHBOUR. Refute it at one input. -/
def FnRedirectionStringTellsFilesToldWrongFalsely : Prop := Claim7.holds Tryf.pinned (.plain (OpenSpec.ofChange fnRedirectionStringTellsFilesWrong)) fnRedirectionStringTellsFilesCard
end Rows
end Go.Proofs.Qxb6618925aFmt
