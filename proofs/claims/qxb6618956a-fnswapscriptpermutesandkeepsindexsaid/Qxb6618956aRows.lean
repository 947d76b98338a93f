/-
  No cell of these rows narrows 'for every input' (looked for: loops, veiled, ifaces, maps, wideKeys, modest, calm, conditions, laid).
  DERIVED. THE GIVEN ROWS OF THIS SEAT. 6 by the template 'for every input the law returns true; each argument reads behind the call as it read before'; 0 by the template 'total and deterministic' (their statements: Qxb6618956aTotals.lean).
  GIVEN WITH THE SEED: the statements are not yours to turn. If you find one false, say at which input.
  Laid BY PROGRAM, IN A SANDBOX (cutbox-rows.mjs): the forced cells as the released guide's own fill.sh prints them over the translation bbc40dbb69670273… (all of the seat's roots in one cut). By AI agents, Wed Nov 11 2026. No macro, syntax, notation, axiom, sorry.
-/
import Derived.Test.Qxb6618956aChecked
import GoSem.Claim
import GoSem.ClaimJoined
import GoSem.ClaimMapViews
import Derived.JoinedTies
import Derived.KernelRfl
namespace Go.Proofs.Qxb6618956a
/- THE CELL 'sum', in the pinned program and in every row, IS THE sha256 OF THE DUMP (.gsa) THAT Qxb6618956aProg.lean LOADS. Nothing in Lean hashes anything: it is a label: what it is worth is what the hold of that sum in a sandbox is worth. -/
noncomputable def Try.pinned : Pinned := { name := "qxb6618956a", sum := "bbc40dbb6967027396dae1bc778cbb42c48fd88734d7552610bed9559360b0af", checked := Try.checked }
namespace Rows
def none {H : Type} : Left H := { results := [], args := [] }

/-- 'zzlaws_ratelimit_b1.FnLessStrictTotalOrderOnKeys': WHATEVER THE INPUT: true; the input reads as it did. -/
def fnLessStrictTotalOrderOnKeysSpec : ChangeSpec := { name := "fnLessStrictTotalOrderOnKeys", fn := fun _ => fun
  | [d1, d2, d3, d4, d5] => { results := [.lit (.bool true)], args := [d1, d2, d3, d4, d5] }
  | _ => none }
def fnLessStrictTotalOrderOnKeysRow : OpenClaim := { program := "qxb6618956a", sum := "bbc40dbb6967027396dae1bc778cbb42c48fd88734d7552610bed9559360b0af", func := "example.com/tideward/tideward/zzlaws_ratelimit_b1.FnLessStrictTotalOrderOnKeys", spec := "fnLessStrictTotalOrderOnKeys", apart := false }
def FnLessStrictTotalOrderOnKeysSaid : Prop := fnLessStrictTotalOrderOnKeysRow.holds Try.pinned (OpenSpec.ofChange fnLessStrictTotalOrderOnKeysSpec)

/-- ITS FALSE NEIGHBOUR: 'it returns false'. Refute it at one input. -/
def fnLessStrictTotalOrderOnKeysWrong : ChangeSpec := { name := "fnLessStrictTotalOrderOnKeys", fn := fun _ => fun
  | [d1, d2, d3, d4, d5] => { results := [.lit (.bool false)], args := [d1, d2, d3, d4, d5] }
  | _ => none }
def FnLessStrictTotalOrderOnKeysWrongFalsely : Prop := fnLessStrictTotalOrderOnKeysRow.holds Try.pinned (OpenSpec.ofChange fnLessStrictTotalOrderOnKeysWrong)

/-- 'zzlaws_ratelimit_b1.FnLessScanFindsServeFirst': WHATEVER THE INPUT: true; the input reads as it did. -/
def fnLessScanFindsServeFirstSpec : ChangeSpec := { name := "fnLessScanFindsServeFirst", fn := fun _ => fun
  | [d1, d2] => { results := [.lit (.bool true)], args := [d1, d2] }
  | _ => none }
def fnLessScanFindsServeFirstRow : OpenClaim := { program := "qxb6618956a", sum := "bbc40dbb6967027396dae1bc778cbb42c48fd88734d7552610bed9559360b0af", func := "example.com/tideward/tideward/zzlaws_ratelimit_b1.FnLessScanFindsServeFirst", spec := "fnLessScanFindsServeFirst", apart := false }
def FnLessScanFindsServeFirstSaid : Prop := fnLessScanFindsServeFirstRow.holds Try.pinned (OpenSpec.ofChange fnLessScanFindsServeFirstSpec)

/-- ITS FALSE NEIGHBOUR: 'it returns false'. Refute it at one input. -/
def fnLessScanFindsServeFirstWrong : ChangeSpec := { name := "fnLessScanFindsServeFirst", fn := fun _ => fun
  | [d1, d2] => { results := [.lit (.bool false)], args := [d1, d2] }
  | _ => none }
def FnLessScanFindsServeFirstWrongFalsely : Prop := fnLessScanFindsServeFirstRow.holds Try.pinned (OpenSpec.ofChange fnLessScanFindsServeFirstWrong)

/-- 'zzlaws_ratelimit_b1.FnSwapOnceExchangesTwiceRestores': WHATEVER THE INPUT: true; the input reads as it did. -/
def fnSwapOnceExchangesTwiceRestoresSpec : ChangeSpec := { name := "fnSwapOnceExchangesTwiceRestores", fn := fun _ => fun
  | [d1, d2, d3, d4] => { results := [.lit (.bool true)], args := [d1, d2, d3, d4] }
  | _ => none }
def fnSwapOnceExchangesTwiceRestoresRow : OpenClaim := { program := "qxb6618956a", sum := "bbc40dbb6967027396dae1bc778cbb42c48fd88734d7552610bed9559360b0af", func := "example.com/tideward/tideward/zzlaws_ratelimit_b1.FnSwapOnceExchangesTwiceRestores", spec := "fnSwapOnceExchangesTwiceRestores", apart := false }
def FnSwapOnceExchangesTwiceRestoresSaid : Prop := fnSwapOnceExchangesTwiceRestoresRow.holds Try.pinned (OpenSpec.ofChange fnSwapOnceExchangesTwiceRestoresSpec)

/-- ITS FALSE NEIGHBOUR: 'it returns false'. Refute it at one input. -/
def fnSwapOnceExchangesTwiceRestoresWrong : ChangeSpec := { name := "fnSwapOnceExchangesTwiceRestores", fn := fun _ => fun
  | [d1, d2, d3, d4] => { results := [.lit (.bool false)], args := [d1, d2, d3, d4] }
  | _ => none }
def FnSwapOnceExchangesTwiceRestoresWrongFalsely : Prop := fnSwapOnceExchangesTwiceRestoresRow.holds Try.pinned (OpenSpec.ofChange fnSwapOnceExchangesTwiceRestoresWrong)

/-- 'zzlaws_ratelimit_b1.FnSwapScriptPermutesAndKeepsIndex': WHATEVER THE INPUT: true; the input reads as it did. -/
def fnSwapScriptPermutesAndKeepsIndexSpec : ChangeSpec := { name := "fnSwapScriptPermutesAndKeepsIndex", fn := fun _ => fun
  | [d1, d2, d3, d4] => { results := [.lit (.bool true)], args := [d1, d2, d3, d4] }
  | _ => none }
def fnSwapScriptPermutesAndKeepsIndexRow : OpenClaim := { program := "qxb6618956a", sum := "bbc40dbb6967027396dae1bc778cbb42c48fd88734d7552610bed9559360b0af", func := "example.com/tideward/tideward/zzlaws_ratelimit_b1.FnSwapScriptPermutesAndKeepsIndex", spec := "fnSwapScriptPermutesAndKeepsIndex", apart := false }
def FnSwapScriptPermutesAndKeepsIndexSaid : Prop := fnSwapScriptPermutesAndKeepsIndexRow.holds Try.pinned (OpenSpec.ofChange fnSwapScriptPermutesAndKeepsIndexSpec)

/-- ITS FALSE NEIGHBOUR: 'it returns false'. Refute it at one input. -/
def fnSwapScriptPermutesAndKeepsIndexWrong : ChangeSpec := { name := "fnSwapScriptPermutesAndKeepsIndex", fn := fun _ => fun
  | [d1, d2, d3, d4] => { results := [.lit (.bool false)], args := [d1, d2, d3, d4] }
  | _ => none }
def FnSwapScriptPermutesAndKeepsIndexWrongFalsely : Prop := fnSwapScriptPermutesAndKeepsIndexRow.holds Try.pinned (OpenSpec.ofChange fnSwapScriptPermutesAndKeepsIndexWrong)

/-- 'zzlaws_ratelimit_b1.FnWithPriorityCarriesPriority': WHATEVER THE INPUT: true; the input reads as it did. -/
def fnWithPriorityCarriesPrioritySpec : ChangeSpec := { name := "fnWithPriorityCarriesPriority", fn := fun _ => fun
  | [d] => { results := [.lit (.bool true)], args := [d] }
  | _ => none }
def fnWithPriorityCarriesPriorityRow : OpenClaim := { program := "qxb6618956a", sum := "bbc40dbb6967027396dae1bc778cbb42c48fd88734d7552610bed9559360b0af", func := "example.com/tideward/tideward/zzlaws_ratelimit_b1.FnWithPriorityCarriesPriority", spec := "fnWithPriorityCarriesPriority", inPlace := ["internal/reflectlite.TypeOf"], unfollowed := true, recurses := true, apart := false }
def FnWithPriorityCarriesPrioritySaid : Prop := fnWithPriorityCarriesPriorityRow.holds Try.pinned (OpenSpec.ofChange fnWithPriorityCarriesPrioritySpec)

/-- ITS FALSE NEIGHBOUR: 'it returns false'. Refute it at one input. -/
def fnWithPriorityCarriesPriorityWrong : ChangeSpec := { name := "fnWithPriorityCarriesPriority", fn := fun _ => fun
  | [d] => { results := [.lit (.bool false)], args := [d] }
  | _ => none }
def FnWithPriorityCarriesPriorityWrongFalsely : Prop := fnWithPriorityCarriesPriorityRow.holds Try.pinned (OpenSpec.ofChange fnWithPriorityCarriesPriorityWrong)

/-- 'zzlaws_ratelimit_b1.FnWithPriorityOuterWinsInnerKept': WHATEVER THE INPUT: true; the input reads as it did. -/
def fnWithPriorityOuterWinsInnerKeptSpec : ChangeSpec := { name := "fnWithPriorityOuterWinsInnerKept", fn := fun _ => fun
  | [d1, d2] => { results := [.lit (.bool true)], args := [d1, d2] }
  | _ => none }
def fnWithPriorityOuterWinsInnerKeptRow : OpenClaim := { program := "qxb6618956a", sum := "bbc40dbb6967027396dae1bc778cbb42c48fd88734d7552610bed9559360b0af", func := "example.com/tideward/tideward/zzlaws_ratelimit_b1.FnWithPriorityOuterWinsInnerKept", spec := "fnWithPriorityOuterWinsInnerKept", inPlace := ["internal/reflectlite.TypeOf"], unfollowed := true, recurses := true, apart := false }
def FnWithPriorityOuterWinsInnerKeptSaid : Prop := fnWithPriorityOuterWinsInnerKeptRow.holds Try.pinned (OpenSpec.ofChange fnWithPriorityOuterWinsInnerKeptSpec)

/-- ITS FALSE NEIGHBOUR: 'it returns false'. Refute it at one input. -/
def fnWithPriorityOuterWinsInnerKeptWrong : ChangeSpec := { name := "fnWithPriorityOuterWinsInnerKept", fn := fun _ => fun
  | [d1, d2] => { results := [.lit (.bool false)], args := [d1, d2] }
  | _ => none }
def FnWithPriorityOuterWinsInnerKeptWrongFalsely : Prop := fnWithPriorityOuterWinsInnerKeptRow.holds Try.pinned (OpenSpec.ofChange fnWithPriorityOuterWinsInnerKeptWrong)

end Rows
end Go.Proofs.Qxb6618956a
