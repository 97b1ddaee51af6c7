/-
  No cell of these rows narrows 'for every input' (looked for: loops, veiled, ifaces, maps, wideKeys, modest, calm, conditions, laid).
  DERIVED. THE GIVEN ROWS OF THIS SEAT. 1 by the template 'for every input the law returns true; each argument reads behind the call as it read before'; 0 by the template 'total and deterministic' (their statements: Qxb6623341aTotals.lean).
  GIVEN WITH THE SEED: the statements are not yours to turn. If you find one false, say at which input.
  Laid BY PROGRAM, IN A SANDBOX (cutbox-rows.mjs): the forced cells as the released guide's own fill.sh prints them over the translation b6bd07a5a3073161… (all of the seat's roots in one cut). By AI agents, Wed Nov 11 2026. No macro, syntax, notation, axiom, sorry.
-/
import Derived.Test.Qxb6623341aChecked
import GoSem.Claim
import GoSem.ClaimJoined
import GoSem.ClaimMapViews
import Derived.JoinedTies
import Derived.KernelRfl
namespace Go.Proofs.Qxb6623341a
/- THE CELL 'sum', in the pinned program and in every row, IS THE sha256 OF THE DUMP (.gsa) THAT Qxb6623341aProg.lean LOADS. Nothing in Lean hashes anything: it is a label: what it is worth is what the hold of that sum in a sandbox is worth. -/
noncomputable def Try.pinned : Pinned := { name := "qxb6623341a", sum := "b6bd07a5a30731619a0d1bfdcbf1607a3f27a3f48f364dfc0e12cd5cd136cb0e", checked := Try.checked }
namespace Rows
def none {H : Type} : Left H := { results := [], args := [] }

/-- 'zzlaws_jsonio_b1.FnCommaSkipsLongestSeparator': WHATEVER THE INPUT: true; the input reads as it did. -/
def fnCommaSkipsLongestSeparatorSpec : ChangeSpec := { name := "fnCommaSkipsLongestSeparator", fn := fun _ => fun
  | [d1, d2, d3, d4] => { results := [.lit (.bool true)], args := [d1, d2, d3, d4] }
  | _ => none }
def fnCommaSkipsLongestSeparatorRow : OpenClaim := { program := "qxb6623341a", sum := "b6bd07a5a30731619a0d1bfdcbf1607a3f27a3f48f364dfc0e12cd5cd136cb0e", func := "example.com/fuseboard/fuseboard/zzlaws_jsonio_b1.FnCommaSkipsLongestSeparator", spec := "fnCommaSkipsLongestSeparator", apart := false }
def FnCommaSkipsLongestSeparatorSaid : Prop := fnCommaSkipsLongestSeparatorRow.holds Try.pinned (OpenSpec.ofChange fnCommaSkipsLongestSeparatorSpec)

/-- ITS FALSE NEIGHBOUR: 'it returns false'. Refute it at one input. -/
def fnCommaSkipsLongestSeparatorWrong : ChangeSpec := { name := "fnCommaSkipsLongestSeparator", fn := fun _ => fun
  | [d1, d2, d3, d4] => { results := [.lit (.bool false)], args := [d1, d2, d3, d4] }
  | _ => none }
def FnCommaSkipsLongestSeparatorWrongFalsely : Prop := fnCommaSkipsLongestSeparatorRow.holds Try.pinned (OpenSpec.ofChange fnCommaSkipsLongestSeparatorWrong)

end Rows
end Go.Proofs.Qxb6623341a
