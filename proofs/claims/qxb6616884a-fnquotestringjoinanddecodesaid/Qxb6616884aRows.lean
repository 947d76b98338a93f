/-
  No cell of these rows narrows 'for every input' (looked for: loops, veiled, ifaces, maps, wideKeys, modest, calm, conditions, laid).
  DERIVED. THE GIVEN ROWS OF THIS SEAT. 2 by the template 'for every input the law returns true; each argument reads behind the call as it read before'; 0 by the template 'total and deterministic' (their statements: Qxb6616884aTotals.lean).
  GIVEN WITH THE SEED: the statements are not yours to turn. If you find one false, say at which input.
  Laid BY PROGRAM, IN A SANDBOX (cutbox-rows.mjs): the forced cells as the released guide's own fill.sh prints them over the translation 57b0a27af6260b15… (all of the seat's roots in one cut). By AI agents, Wed Nov 11 2026. No macro, syntax, notation, axiom, sorry.
-/
import Derived.Test.Qxb6616884aChecked
import GoSem.Claim
import GoSem.ClaimJoined
import GoSem.ClaimMapViews
import Derived.JoinedTies
import Derived.KernelRfl
namespace Go.Proofs.Qxb6616884a
/- THE CELL 'sum', in the pinned program and in every row, IS THE sha256 OF THE DUMP (.gsa) THAT Qxb6616884aProg.lean LOADS. Nothing in Lean hashes anything: it is a label: what it is worth is what the hold of that sum in a sandbox is worth. -/
noncomputable def Try.pinned : Pinned := { name := "qxb6616884a", sum := "57b0a27af6260b15af15d72f51d42f889b0d235a5a65e41f29a584db441362dc", checked := Try.checked }
namespace Rows
def none {H : Type} : Left H := { results := [], args := [] }

/-- 'zzlaws_root_b1.FnQuoteStringJoinAndDecode': WHATEVER THE INPUT: true; the input reads as it did. -/
def fnQuoteStringJoinAndDecodeSpec : ChangeSpec := { name := "fnQuoteStringJoinAndDecode", fn := fun _ => fun
  | [d1, d2] => { results := [.lit (.bool true)], args := [d1, d2] }
  | _ => none }
def fnQuoteStringJoinAndDecodeRow : OpenClaim := { program := "qxb6616884a", sum := "57b0a27af6260b15af15d72f51d42f889b0d235a5a65e41f29a584db441362dc", func := "example.com/tallowframe/tallowframe/zzlaws_root_b1.FnQuoteStringJoinAndDecode", spec := "fnQuoteStringJoinAndDecode", inPlace := ["internal/abi.NoEscape"], apart := false }
def FnQuoteStringJoinAndDecodeSaid : Prop := fnQuoteStringJoinAndDecodeRow.holds Try.pinned (OpenSpec.ofChange fnQuoteStringJoinAndDecodeSpec)

/-- ITS FALSE NEIGHBOUR: 'it returns false'. Refute it at one input. -/
def fnQuoteStringJoinAndDecodeWrong : ChangeSpec := { name := "fnQuoteStringJoinAndDecode", fn := fun _ => fun
  | [d1, d2] => { results := [.lit (.bool false)], args := [d1, d2] }
  | _ => none }
def FnQuoteStringJoinAndDecodeWrongFalsely : Prop := fnQuoteStringJoinAndDecodeRow.holds Try.pinned (OpenSpec.ofChange fnQuoteStringJoinAndDecodeWrong)

/-- 'zzlaws_root_b1.FnQuoteStringEndsWhereItsLiteralEnds': WHATEVER THE INPUT: true; the input reads as it did. -/
def fnQuoteStringEndsWhereItsLiteralEndsSpec : ChangeSpec := { name := "fnQuoteStringEndsWhereItsLiteralEnds", fn := fun _ => fun
  | [d1, d2] => { results := [.lit (.bool true)], args := [d1, d2] }
  | _ => none }
def fnQuoteStringEndsWhereItsLiteralEndsRow : OpenClaim := { program := "qxb6616884a", sum := "57b0a27af6260b15af15d72f51d42f889b0d235a5a65e41f29a584db441362dc", func := "example.com/tallowframe/tallowframe/zzlaws_root_b1.FnQuoteStringEndsWhereItsLiteralEnds", spec := "fnQuoteStringEndsWhereItsLiteralEnds", inPlace := ["internal/abi.NoEscape"], apart := false }
def FnQuoteStringEndsWhereItsLiteralEndsSaid : Prop := fnQuoteStringEndsWhereItsLiteralEndsRow.holds Try.pinned (OpenSpec.ofChange fnQuoteStringEndsWhereItsLiteralEndsSpec)

/-- ITS FALSE NEIGHBOUR: 'it returns false'. Refute it at one input. -/
def fnQuoteStringEndsWhereItsLiteralEndsWrong : ChangeSpec := { name := "fnQuoteStringEndsWhereItsLiteralEnds", fn := fun _ => fun
  | [d1, d2] => { results := [.lit (.bool false)], args := [d1, d2] }
  | _ => none }
def FnQuoteStringEndsWhereItsLiteralEndsWrongFalsely : Prop := fnQuoteStringEndsWhereItsLiteralEndsRow.holds Try.pinned (OpenSpec.ofChange fnQuoteStringEndsWhereItsLiteralEndsWrong)

end Rows
end Go.Proofs.Qxb6616884a
