/-
  No cell of these rows narrows 'for every input' (looked for: loops, veiled, ifaces, maps, wideKeys, modest, calm, conditions, laid).
  DERIVED. THE GIVEN ROWS OF THIS SEAT. 6 by the template 'for every input the law returns true; each argument reads behind the call as it read before'; 0 by the template 'total and deterministic' (their statements: Qxb6620837aTotals.lean).
  GIVEN WITH THE SEED: the statements are not yours to turn. If you find one false, say at which input.
  Laid BY PROGRAM, IN A SANDBOX (cutbox-rows.mjs): the forced cells as the released guide's own fill.sh prints them over the translation bd118e6287cce6c9… (all of the seat's roots in one cut). By AI agents, Wed Nov 11 2026. No macro, syntax, notation, axiom, sorry.
-/
import Derived.Test.Qxb6620837aChecked
import GoSem.Claim
import GoSem.ClaimJoined
import GoSem.ClaimMapViews
import Derived.JoinedTies
import Derived.KernelRfl
namespace Go.Proofs.Qxb6620837a
/- THE CELL 'sum', in the pinned program and in every row, IS THE sha256 OF THE DUMP (.gsa) THAT Qxb6620837aProg.lean LOADS. Nothing in Lean hashes anything: it is a label: what it is worth is what the hold of that sum in a sandbox is worth. -/
noncomputable def Try.pinned : Pinned := { name := "qxb6620837a", sum := "bd118e6287cce6c93c26945cd5624318cc1d2501cebc7178b80395314acd9155", checked := Try.checked }
namespace Rows
def none {H : Type} : Left H := { results := [], args := [] }

/-- 'zzlaws_h2_hpack_b1.FnAppendIntegerAppendsShortestEncodingOfV': WHATEVER THE INPUT: true; the input reads as it did. -/
def fnAppendIntegerAppendsShortestEncodingOfVSpec : ChangeSpec := { name := "fnAppendIntegerAppendsShortestEncodingOfV", fn := fun _ => fun
  | [d1, d2, d3, d4] => { results := [.lit (.bool true)], args := [d1, d2, d3, d4] }
  | _ => none }
def fnAppendIntegerAppendsShortestEncodingOfVRow : OpenClaim := { program := "qxb6620837a", sum := "bd118e6287cce6c93c26945cd5624318cc1d2501cebc7178b80395314acd9155", func := "example.com/corelace/corelace/zzlaws_h2_hpack_b1.FnAppendIntegerAppendsShortestEncodingOfV", spec := "fnAppendIntegerAppendsShortestEncodingOfV", apart := false }
def FnAppendIntegerAppendsShortestEncodingOfVSaid : Prop := fnAppendIntegerAppendsShortestEncodingOfVRow.holds Try.pinned (OpenSpec.ofChange fnAppendIntegerAppendsShortestEncodingOfVSpec)

/-- ITS FALSE NEIGHBOUR: 'it returns false'. Refute it at one input. -/
def fnAppendIntegerAppendsShortestEncodingOfVWrong : ChangeSpec := { name := "fnAppendIntegerAppendsShortestEncodingOfV", fn := fun _ => fun
  | [d1, d2, d3, d4] => { results := [.lit (.bool false)], args := [d1, d2, d3, d4] }
  | _ => none }
def FnAppendIntegerAppendsShortestEncodingOfVWrongFalsely : Prop := fnAppendIntegerAppendsShortestEncodingOfVRow.holds Try.pinned (OpenSpec.ofChange fnAppendIntegerAppendsShortestEncodingOfVWrong)

/-- 'zzlaws_h2_hpack_b1.FnAppendIntegerEncodingsInjectivePrefixFree': WHATEVER THE INPUT: true; the input reads as it did. -/
def fnAppendIntegerEncodingsInjectivePrefixFreeSpec : ChangeSpec := { name := "fnAppendIntegerEncodingsInjectivePrefixFree", fn := fun _ => fun
  | [d1, d2, d3, d4] => { results := [.lit (.bool true)], args := [d1, d2, d3, d4] }
  | _ => none }
def fnAppendIntegerEncodingsInjectivePrefixFreeRow : OpenClaim := { program := "qxb6620837a", sum := "bd118e6287cce6c93c26945cd5624318cc1d2501cebc7178b80395314acd9155", func := "example.com/corelace/corelace/zzlaws_h2_hpack_b1.FnAppendIntegerEncodingsInjectivePrefixFree", spec := "fnAppendIntegerEncodingsInjectivePrefixFree", apart := false }
def FnAppendIntegerEncodingsInjectivePrefixFreeSaid : Prop := fnAppendIntegerEncodingsInjectivePrefixFreeRow.holds Try.pinned (OpenSpec.ofChange fnAppendIntegerEncodingsInjectivePrefixFreeSpec)

/-- ITS FALSE NEIGHBOUR: 'it returns false'. Refute it at one input. -/
def fnAppendIntegerEncodingsInjectivePrefixFreeWrong : ChangeSpec := { name := "fnAppendIntegerEncodingsInjectivePrefixFree", fn := fun _ => fun
  | [d1, d2, d3, d4] => { results := [.lit (.bool false)], args := [d1, d2, d3, d4] }
  | _ => none }
def FnAppendIntegerEncodingsInjectivePrefixFreeWrongFalsely : Prop := fnAppendIntegerEncodingsInjectivePrefixFreeRow.holds Try.pinned (OpenSpec.ofChange fnAppendIntegerEncodingsInjectivePrefixFreeWrong)

/-- 'zzlaws_h2_hpack_b1.FnTableAddKeepsNewestFittingSuffix': WHATEVER THE INPUT: true; the input reads as it did. -/
def fnTableAddKeepsNewestFittingSuffixSpec : ChangeSpec := { name := "fnTableAddKeepsNewestFittingSuffix", fn := fun _ => fun
  | [d1, d2, d3, d4, d5, d6] => { results := [.lit (.bool true)], args := [d1, d2, d3, d4, d5, d6] }
  | _ => none }
def fnTableAddKeepsNewestFittingSuffixRow : OpenClaim := { program := "qxb6620837a", sum := "bd118e6287cce6c93c26945cd5624318cc1d2501cebc7178b80395314acd9155", func := "example.com/corelace/corelace/zzlaws_h2_hpack_b1.FnTableAddKeepsNewestFittingSuffix", spec := "fnTableAddKeepsNewestFittingSuffix", apart := false }
def FnTableAddKeepsNewestFittingSuffixSaid : Prop := fnTableAddKeepsNewestFittingSuffixRow.holds Try.pinned (OpenSpec.ofChange fnTableAddKeepsNewestFittingSuffixSpec)

/-- ITS FALSE NEIGHBOUR: 'it returns false'. Refute it at one input. -/
def fnTableAddKeepsNewestFittingSuffixWrong : ChangeSpec := { name := "fnTableAddKeepsNewestFittingSuffix", fn := fun _ => fun
  | [d1, d2, d3, d4, d5, d6] => { results := [.lit (.bool false)], args := [d1, d2, d3, d4, d5, d6] }
  | _ => none }
def FnTableAddKeepsNewestFittingSuffixWrongFalsely : Prop := fnTableAddKeepsNewestFittingSuffixRow.holds Try.pinned (OpenSpec.ofChange fnTableAddKeepsNewestFittingSuffixWrong)

/-- 'zzlaws_h2_hpack_b1.FnTableAddScriptIsSlidingWindow': WHATEVER THE INPUT: true; the input reads as it did. -/
def fnTableAddScriptIsSlidingWindowSpec : ChangeSpec := { name := "fnTableAddScriptIsSlidingWindow", fn := fun _ => fun
  | [d1, d2, d3, d4, d5, d6] => { results := [.lit (.bool true)], args := [d1, d2, d3, d4, d5, d6] }
  | _ => none }
def fnTableAddScriptIsSlidingWindowRow : OpenClaim := { program := "qxb6620837a", sum := "bd118e6287cce6c93c26945cd5624318cc1d2501cebc7178b80395314acd9155", func := "example.com/corelace/corelace/zzlaws_h2_hpack_b1.FnTableAddScriptIsSlidingWindow", spec := "fnTableAddScriptIsSlidingWindow", apart := false }
def FnTableAddScriptIsSlidingWindowSaid : Prop := fnTableAddScriptIsSlidingWindowRow.holds Try.pinned (OpenSpec.ofChange fnTableAddScriptIsSlidingWindowSpec)

/-- ITS FALSE NEIGHBOUR: 'it returns false'. Refute it at one input. -/
def fnTableAddScriptIsSlidingWindowWrong : ChangeSpec := { name := "fnTableAddScriptIsSlidingWindow", fn := fun _ => fun
  | [d1, d2, d3, d4, d5, d6] => { results := [.lit (.bool false)], args := [d1, d2, d3, d4, d5, d6] }
  | _ => none }
def FnTableAddScriptIsSlidingWindowWrongFalsely : Prop := fnTableAddScriptIsSlidingWindowRow.holds Try.pinned (OpenSpec.ofChange fnTableAddScriptIsSlidingWindowWrong)

/-- 'zzlaws_h2_hpack_b1.FnEncoderSetTableSizeScriptMatchesHistory': WHATEVER THE INPUT: true; the input reads as it did. -/
def fnEncoderSetTableSizeScriptMatchesHistorySpec : ChangeSpec := { name := "fnEncoderSetTableSizeScriptMatchesHistory", fn := fun _ => fun
  | [d1, d2, d3, d4, d5, d6, d7, d8] => { results := [.lit (.bool true)], args := [d1, d2, d3, d4, d5, d6, d7, d8] }
  | _ => none }
def fnEncoderSetTableSizeScriptMatchesHistoryRow : OpenClaim := { program := "qxb6620837a", sum := "bd118e6287cce6c93c26945cd5624318cc1d2501cebc7178b80395314acd9155", func := "example.com/corelace/corelace/zzlaws_h2_hpack_b1.FnEncoderSetTableSizeScriptMatchesHistory", spec := "fnEncoderSetTableSizeScriptMatchesHistory", apart := false }
def FnEncoderSetTableSizeScriptMatchesHistorySaid : Prop := fnEncoderSetTableSizeScriptMatchesHistoryRow.holds Try.pinned (OpenSpec.ofChange fnEncoderSetTableSizeScriptMatchesHistorySpec)

/-- ITS FALSE NEIGHBOUR: 'it returns false'. Refute it at one input. -/
def fnEncoderSetTableSizeScriptMatchesHistoryWrong : ChangeSpec := { name := "fnEncoderSetTableSizeScriptMatchesHistory", fn := fun _ => fun
  | [d1, d2, d3, d4, d5, d6, d7, d8] => { results := [.lit (.bool false)], args := [d1, d2, d3, d4, d5, d6, d7, d8] }
  | _ => none }
def FnEncoderSetTableSizeScriptMatchesHistoryWrongFalsely : Prop := fnEncoderSetTableSizeScriptMatchesHistoryRow.holds Try.pinned (OpenSpec.ofChange fnEncoderSetTableSizeScriptMatchesHistoryWrong)

/-- 'zzlaws_h2_hpack_b1.FnEncoderSetTableSizeIdempotent': WHATEVER THE INPUT: true; the input reads as it did. -/
def fnEncoderSetTableSizeIdempotentSpec : ChangeSpec := { name := "fnEncoderSetTableSizeIdempotent", fn := fun _ => fun
  | [d1, d2, d3, d4, d5, d6, d7, d8] => { results := [.lit (.bool true)], args := [d1, d2, d3, d4, d5, d6, d7, d8] }
  | _ => none }
def fnEncoderSetTableSizeIdempotentRow : OpenClaim := { program := "qxb6620837a", sum := "bd118e6287cce6c93c26945cd5624318cc1d2501cebc7178b80395314acd9155", func := "example.com/corelace/corelace/zzlaws_h2_hpack_b1.FnEncoderSetTableSizeIdempotent", spec := "fnEncoderSetTableSizeIdempotent", apart := false }
def FnEncoderSetTableSizeIdempotentSaid : Prop := fnEncoderSetTableSizeIdempotentRow.holds Try.pinned (OpenSpec.ofChange fnEncoderSetTableSizeIdempotentSpec)

/-- ITS FALSE NEIGHBOUR: 'it returns false'. Refute it at one input. -/
def fnEncoderSetTableSizeIdempotentWrong : ChangeSpec := { name := "fnEncoderSetTableSizeIdempotent", fn := fun _ => fun
  | [d1, d2, d3, d4, d5, d6, d7, d8] => { results := [.lit (.bool false)], args := [d1, d2, d3, d4, d5, d6, d7, d8] }
  | _ => none }
def FnEncoderSetTableSizeIdempotentWrongFalsely : Prop := fnEncoderSetTableSizeIdempotentRow.holds Try.pinned (OpenSpec.ofChange fnEncoderSetTableSizeIdempotentWrong)

end Rows
end Go.Proofs.Qxb6620837a
