/-
  No cell of these rows narrows 'for every input' (looked for: loops, veiled, ifaces, maps, wideKeys, modest, calm, conditions, laid).
  DERIVED. THE GIVEN ROWS OF THIS SEAT. 2 by the template 'for every input the law returns true; each argument reads behind the call as it read before'; 0 by the template 'total and deterministic' (their statements: Qxb6616596aTotals.lean).
  GIVEN WITH THE SEED: the statements are not yours to turn. If you find one false, say at which input.
  Laid BY PROGRAM, IN A SANDBOX (cutbox-rows.mjs): the forced cells as the released guide's own fill.sh prints them over the translation c73e9594176f69e4… (all of the seat's roots in one cut). By AI agents, Wed Nov 11 2026. No macro, syntax, notation, axiom, sorry.
-/
import Derived.Test.Qxb6616596aChecked
import GoSem.Claim
import GoSem.ClaimJoined
import GoSem.ClaimMapViews
import Derived.JoinedTies
import Derived.KernelRfl
namespace Go.Proofs.Qxb6616596a
/- THE CELL 'sum', in the pinned program and in every row, IS THE sha256 OF THE DUMP (.gsa) THAT Qxb6616596aProg.lean LOADS. Nothing in Lean hashes anything: it is a label: what it is worth is what the hold of that sum in a sandbox is worth. -/
noncomputable def Try.pinned : Pinned := { name := "qxb6616596a", sum := "c73e9594176f69e4636d8665c4cfad73f75ca4a8f628e2439bf9389c6768338a", checked := Try.checked }
namespace Rows
def none {H : Type} : Left H := { results := [], args := [] }

/-- 'zzlaws_mysql_b1.FnPlaceholdersSplitAtAnyCut': WHATEVER THE INPUT: true; the input reads as it did. -/
def fnPlaceholdersSplitAtAnyCutSpec : ChangeSpec := { name := "fnPlaceholdersSplitAtAnyCut", fn := fun _ => fun
  | [d1, d2] => { results := [.lit (.bool true)], args := [d1, d2] }
  | _ => none }
def fnPlaceholdersSplitAtAnyCutRow : OpenClaim := { program := "qxb6616596a", sum := "c73e9594176f69e4636d8665c4cfad73f75ca4a8f628e2439bf9389c6768338a", func := "example.com/unsent-letters/unsent-letters/zzlaws_mysql_b1.FnPlaceholdersSplitAtAnyCut", spec := "fnPlaceholdersSplitAtAnyCut", inPlace := ["internal/abi.NoEscape", "internal/bytealg.MakeNoZero"], apart := false }
def FnPlaceholdersSplitAtAnyCutSaid : Prop := fnPlaceholdersSplitAtAnyCutRow.holds Try.pinned (OpenSpec.ofChange fnPlaceholdersSplitAtAnyCutSpec)

/-- ITS FALSE NEIGHBOUR: 'it returns false'. Refute it at one input. -/
def fnPlaceholdersSplitAtAnyCutWrong : ChangeSpec := { name := "fnPlaceholdersSplitAtAnyCut", fn := fun _ => fun
  | [d1, d2] => { results := [.lit (.bool false)], args := [d1, d2] }
  | _ => none }
def FnPlaceholdersSplitAtAnyCutWrongFalsely : Prop := fnPlaceholdersSplitAtAnyCutRow.holds Try.pinned (OpenSpec.ofChange fnPlaceholdersSplitAtAnyCutWrong)

/-- 'zzlaws_mysql_b1.FnPlaceholdersPrefixGrows': WHATEVER THE INPUT: true; the input reads as it did. -/
def fnPlaceholdersPrefixGrowsSpec : ChangeSpec := { name := "fnPlaceholdersPrefixGrows", fn := fun _ => fun
  | [d1, d2] => { results := [.lit (.bool true)], args := [d1, d2] }
  | _ => none }
def fnPlaceholdersPrefixGrowsRow : OpenClaim := { program := "qxb6616596a", sum := "c73e9594176f69e4636d8665c4cfad73f75ca4a8f628e2439bf9389c6768338a", func := "example.com/unsent-letters/unsent-letters/zzlaws_mysql_b1.FnPlaceholdersPrefixGrows", spec := "fnPlaceholdersPrefixGrows", inPlace := ["internal/abi.NoEscape", "internal/bytealg.MakeNoZero"], apart := false }
def FnPlaceholdersPrefixGrowsSaid : Prop := fnPlaceholdersPrefixGrowsRow.holds Try.pinned (OpenSpec.ofChange fnPlaceholdersPrefixGrowsSpec)

/-- ITS FALSE NEIGHBOUR: 'it returns false'. Refute it at one input. -/
def fnPlaceholdersPrefixGrowsWrong : ChangeSpec := { name := "fnPlaceholdersPrefixGrows", fn := fun _ => fun
  | [d1, d2] => { results := [.lit (.bool false)], args := [d1, d2] }
  | _ => none }
def FnPlaceholdersPrefixGrowsWrongFalsely : Prop := fnPlaceholdersPrefixGrowsRow.holds Try.pinned (OpenSpec.ofChange fnPlaceholdersPrefixGrowsWrong)

end Rows
end Go.Proofs.Qxb6616596a
