/-
  No cell of these rows narrows 'for every input' (looked for: loops, veiled, ifaces, maps, wideKeys, modest, calm, conditions, laid).
  DERIVED. THE GIVEN ROWS OF THIS SEAT. 2 by the template 'for every input the law returns true; each argument reads behind the call as it read before'; 0 by the template 'total and deterministic' (their statements: Qxb6608518aTotals.lean).
  GIVEN WITH THE SEED: the statements are not yours to turn. If you find one false, say at which input.
  Laid BY PROGRAM, IN A SANDBOX (cutbox-rows.mjs): the forced cells as the released guide's own fill.sh prints them over the translation c11e653708148a73… (all of the seat's roots in one cut). By AI agents, Wed Nov 11 2026. No macro, syntax, notation, axiom, sorry.
-/
import Derived.Test.Qxb6608518aChecked
import GoSem.Claim
import GoSem.ClaimJoined
import GoSem.ClaimMapViews
import Derived.JoinedTies
import Derived.KernelRfl
namespace Go.Proofs.Qxb6608518a
/- THE CELL 'sum', in the pinned program and in every row, IS THE sha256 OF THE DUMP (.gsa) THAT Qxb6608518aProg.lean LOADS. Nothing in Lean hashes anything: it is a label: what it is worth is what the hold of that sum in a sandbox is worth. -/
noncomputable def Try.pinned : Pinned := { name := "qxb6608518a", sum := "c11e653708148a73195130f8e701f3a7f599d5d5e43a1a3247d5a899a9df4929", checked := Try.checked }
namespace Rows
def none {H : Type} : Left H := { results := [], args := [] }

/-- 'zzlaws_pkg_lorawan_b1.FnTrimHexPrefixUndoesPrefixRefusesOthers': WHATEVER THE INPUT: true; the input reads as it did. -/
def fnTrimHexPrefixUndoesPrefixRefusesOthersSpec : ChangeSpec := { name := "fnTrimHexPrefixUndoesPrefixRefusesOthers", fn := fun _ => fun
  | [d] => { results := [.lit (.bool true)], args := [d] }
  | _ => none }
def fnTrimHexPrefixUndoesPrefixRefusesOthersRow : OpenClaim := { program := "qxb6608518a", sum := "c11e653708148a73195130f8e701f3a7f599d5d5e43a1a3247d5a899a9df4929", func := "example.com/roaming-backend/roaming-backend/zzlaws_pkg_lorawan_b1.FnTrimHexPrefixUndoesPrefixRefusesOthers", spec := "fnTrimHexPrefixUndoesPrefixRefusesOthers", apart := false }
def FnTrimHexPrefixUndoesPrefixRefusesOthersSaid : Prop := fnTrimHexPrefixUndoesPrefixRefusesOthersRow.holds Try.pinned (OpenSpec.ofChange fnTrimHexPrefixUndoesPrefixRefusesOthersSpec)

/-- ITS FALSE NEIGHBOUR: 'it returns false'. Refute it at one input. -/
def fnTrimHexPrefixUndoesPrefixRefusesOthersWrong : ChangeSpec := { name := "fnTrimHexPrefixUndoesPrefixRefusesOthers", fn := fun _ => fun
  | [d] => { results := [.lit (.bool false)], args := [d] }
  | _ => none }
def FnTrimHexPrefixUndoesPrefixRefusesOthersWrongFalsely : Prop := fnTrimHexPrefixUndoesPrefixRefusesOthersRow.holds Try.pinned (OpenSpec.ofChange fnTrimHexPrefixUndoesPrefixRefusesOthersWrong)

/-- 'zzlaws_pkg_lorawan_b1.FnTrimHexPrefixActsOnFirstTwoBytes': WHATEVER THE INPUT: true; the input reads as it did. -/
def fnTrimHexPrefixActsOnFirstTwoBytesSpec : ChangeSpec := { name := "fnTrimHexPrefixActsOnFirstTwoBytes", fn := fun _ => fun
  | [d1, d2] => { results := [.lit (.bool true)], args := [d1, d2] }
  | _ => none }
def fnTrimHexPrefixActsOnFirstTwoBytesRow : OpenClaim := { program := "qxb6608518a", sum := "c11e653708148a73195130f8e701f3a7f599d5d5e43a1a3247d5a899a9df4929", func := "example.com/roaming-backend/roaming-backend/zzlaws_pkg_lorawan_b1.FnTrimHexPrefixActsOnFirstTwoBytes", spec := "fnTrimHexPrefixActsOnFirstTwoBytes", apart := false }
def FnTrimHexPrefixActsOnFirstTwoBytesSaid : Prop := fnTrimHexPrefixActsOnFirstTwoBytesRow.holds Try.pinned (OpenSpec.ofChange fnTrimHexPrefixActsOnFirstTwoBytesSpec)

/-- ITS FALSE NEIGHBOUR: 'it returns false'. Refute it at one input. -/
def fnTrimHexPrefixActsOnFirstTwoBytesWrong : ChangeSpec := { name := "fnTrimHexPrefixActsOnFirstTwoBytes", fn := fun _ => fun
  | [d1, d2] => { results := [.lit (.bool false)], args := [d1, d2] }
  | _ => none }
def FnTrimHexPrefixActsOnFirstTwoBytesWrongFalsely : Prop := fnTrimHexPrefixActsOnFirstTwoBytesRow.holds Try.pinned (OpenSpec.ofChange fnTrimHexPrefixActsOnFirstTwoBytesWrong)

end Rows
end Go.Proofs.Qxb6608518a
