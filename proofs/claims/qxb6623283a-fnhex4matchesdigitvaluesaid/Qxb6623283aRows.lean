/-
  No cell of these rows narrows 'for every input' (looked for: loops, veiled, ifaces, maps, wideKeys, modest, calm, conditions, laid).
  DERIVED. THE GIVEN ROWS OF THIS SEAT. 1 by the template 'for every input the law returns true; each argument reads behind the call as it read before'; 0 by the template 'total and deterministic' (their statements: Qxb6623283aTotals.lean).
  GIVEN WITH THE SEED: the statements are not yours to turn. If you find one false, say at which input.
  Laid BY PROGRAM, IN A SANDBOX (cutbox-rows.mjs): the forced cells as the released guide's own fill.sh prints them over the translation f361788f266d2686… (all of the seat's roots in one cut). By AI agents, Wed Nov 11 2026. No macro, syntax, notation, axiom, sorry.
-/
import Derived.Test.Qxb6623283aChecked
import GoSem.Claim
import GoSem.ClaimJoined
import GoSem.ClaimMapViews
import Derived.JoinedTies
import Derived.KernelRfl
namespace Go.Proofs.Qxb6623283a
/- THE CELL 'sum', in the pinned program and in every row, IS THE sha256 OF THE DUMP (.gsa) THAT Qxb6623283aProg.lean LOADS. Nothing in Lean hashes anything: it is a label: what it is worth is what the hold of that sum in a sandbox is worth. -/
noncomputable def Try.pinned : Pinned := { name := "qxb6623283a", sum := "f361788f266d268613cfc6bf52a526c5945dc232510ffe967dcdf9d804d48dc4", checked := Try.checked }
namespace Rows
def none {H : Type} : Left H := { results := [], args := [] }

/-- 'zzlaws_root_b1.FnHex4MatchesDigitValue': WHATEVER THE INPUT: true; the input reads as it did. -/
def fnHex4MatchesDigitValueSpec : ChangeSpec := { name := "fnHex4MatchesDigitValue", fn := fun _ => fun
  | [d1, d2] => { results := [.lit (.bool true)], args := [d1, d2] }
  | _ => none }
def fnHex4MatchesDigitValueRow : OpenClaim := { program := "qxb6623283a", sum := "f361788f266d268613cfc6bf52a526c5945dc232510ffe967dcdf9d804d48dc4", func := "example.com/pathorder/pathorder/zzlaws_root_b1.FnHex4MatchesDigitValue", spec := "fnHex4MatchesDigitValue", apart := false }
def FnHex4MatchesDigitValueSaid : Prop := fnHex4MatchesDigitValueRow.holds Try.pinned (OpenSpec.ofChange fnHex4MatchesDigitValueSpec)

/-- ITS FALSE NEIGHBOUR: 'it returns false'. Refute it at one input. -/
def fnHex4MatchesDigitValueWrong : ChangeSpec := { name := "fnHex4MatchesDigitValue", fn := fun _ => fun
  | [d1, d2] => { results := [.lit (.bool false)], args := [d1, d2] }
  | _ => none }
def FnHex4MatchesDigitValueWrongFalsely : Prop := fnHex4MatchesDigitValueRow.holds Try.pinned (OpenSpec.ofChange fnHex4MatchesDigitValueWrong)

end Rows
end Go.Proofs.Qxb6623283a
