/-
  No cell of these rows narrows 'for every input' (looked for: loops, veiled, ifaces, maps, wideKeys, modest, calm, conditions, laid).
  DERIVED. THE GIVEN ROWS OF THIS SEAT. 2 by the template 'for every input the law returns true; each argument reads behind the call as it read before'; 0 by the template 'total and deterministic' (their statements: Qxb6618925aFmtTotals.lean).
  GIVEN WITH THE SEED: the statements are not yours to turn. If you find one false, say at which input.
  Laid BY PROGRAM, IN A SANDBOX (cutbox-rows.mjs): the forced cells as the released guide's own fill.sh prints them over the translation 016aef7e59db68af… (all of the seat's roots in one cut). By AI agents, Wed Nov 11 2026. No macro, syntax, notation, axiom, sorry.
-/
import Derived.Test.Qxb6618925aFmtChecked
import GoSem.Claim
import GoSem.ClaimJoined
import GoSem.ClaimMapViews
import Derived.JoinedTies
import Derived.KernelRfl
namespace Go.Proofs.Qxb6618925aFmt
/- THE CELL 'sum', in the pinned program and in every row, IS THE sha256 OF THE DUMP (.gsa) THAT Qxb6618925aFmtProg.lean LOADS. Nothing in Lean hashes anything: it is a label: what it is worth is what the hold of that sum in a sandbox is worth. -/
noncomputable def Tryf.pinned : Pinned := { name := "qxb6618925afmt", sum := "016aef7e59db68afb1a71fc4eedfe508968d6ae3f7eccc3c70b31eef79fe5b30", checked := Tryf.checked }
namespace Rows
def none {H : Type} : Left H := { results := [], args := [] }

/-- 'zzlaws_root_b1.FnRedirectionStringTailIgnoresOp': WHATEVER THE INPUT: true; the input reads as it did. -/
def fnRedirectionStringTailIgnoresOpSpec : ChangeSpec := { name := "fnRedirectionStringTailIgnoresOp", fn := fun _ => fun
  | [d1, d2, d3, d4, d5, d6, d7, d8, d9] => { results := [.lit (.bool true)], args := [d1, d2, d3, d4, d5, d6, d7, d8, d9] }
  | _ => none }
def fnRedirectionStringTailIgnoresOpRow : OpenClaim := { program := "qxb6618925afmt", sum := "016aef7e59db68afb1a71fc4eedfe508968d6ae3f7eccc3c70b31eef79fe5b30", func := "example.com/tollgate/tollgate/zzlaws_root_b1.FnRedirectionStringTailIgnoresOp", spec := "fnRedirectionStringTailIgnoresOp", stops := ["fmt.Sprintf"], inPlace := ["fmt.Sprintf"], apart := false }
/-- NO THEOREM (fmt's text is open here; it may be false): for the released tool's asking of the row's closed facts alone. THE STATEMENT IS 'FnRedirectionStringTailIgnoresOpToldSaid' (Qxb6618925aFmtCards.lean). -/
def FnRedirectionStringTailIgnoresOpFormAsk : Prop := fnRedirectionStringTailIgnoresOpRow.holds Tryf.pinned (OpenSpec.ofChange fnRedirectionStringTailIgnoresOpSpec)

/-- ITS FALSE NEIGHBOUR: 'it returns false'. Refute it at one input. -/
def fnRedirectionStringTailIgnoresOpWrong : ChangeSpec := { name := "fnRedirectionStringTailIgnoresOp", fn := fun _ => fun
  | [d1, d2, d3, d4, d5, d6, d7, d8, d9] => { results := [.lit (.bool false)], args := [d1, d2, d3, d4, d5, d6, d7, d8, d9] }
  | _ => none }
def FnRedirectionStringTailIgnoresOpWrongFormAsk : Prop := fnRedirectionStringTailIgnoresOpRow.holds Tryf.pinned (OpenSpec.ofChange fnRedirectionStringTailIgnoresOpWrong)

/-- 'zzlaws_root_b1.FnRedirectionStringTellsFiles': WHATEVER THE INPUT: true; the input reads as it did. -/
def fnRedirectionStringTellsFilesSpec : ChangeSpec := { name := "fnRedirectionStringTellsFiles", fn := fun _ => fun
  | [d1, d2, d3, d4, d5, d6, d7, d8, d9] => { results := [.lit (.bool true)], args := [d1, d2, d3, d4, d5, d6, d7, d8, d9] }
  | _ => none }
def fnRedirectionStringTellsFilesRow : OpenClaim := { program := "qxb6618925afmt", sum := "016aef7e59db68afb1a71fc4eedfe508968d6ae3f7eccc3c70b31eef79fe5b30", func := "example.com/tollgate/tollgate/zzlaws_root_b1.FnRedirectionStringTellsFiles", spec := "fnRedirectionStringTellsFiles", stops := ["fmt.Sprintf"], inPlace := ["fmt.Sprintf"], apart := false }
/-- NO THEOREM (fmt's text is open here; it may be false): for the released tool's asking of the row's closed facts alone. THE STATEMENT IS 'FnRedirectionStringTellsFilesToldSaid' (Qxb6618925aFmtCards.lean). -/
def FnRedirectionStringTellsFilesFormAsk : Prop := fnRedirectionStringTellsFilesRow.holds Tryf.pinned (OpenSpec.ofChange fnRedirectionStringTellsFilesSpec)

/-- ITS FALSE NEIGHBOUR: 'it returns false'. Refute it at one input. -/
def fnRedirectionStringTellsFilesWrong : ChangeSpec := { name := "fnRedirectionStringTellsFiles", fn := fun _ => fun
  | [d1, d2, d3, d4, d5, d6, d7, d8, d9] => { results := [.lit (.bool false)], args := [d1, d2, d3, d4, d5, d6, d7, d8, d9] }
  | _ => none }
def FnRedirectionStringTellsFilesWrongFormAsk : Prop := fnRedirectionStringTellsFilesRow.holds Tryf.pinned (OpenSpec.ofChange fnRedirectionStringTellsFilesWrong)

end Rows
end Go.Proofs.Qxb6618925aFmt
