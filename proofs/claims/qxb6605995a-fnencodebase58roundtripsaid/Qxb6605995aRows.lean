/-
  No cell of these rows narrows 'for every input' (looked for: loops, veiled, ifaces, maps, wideKeys, modest, calm, conditions, laid).
  DERIVED. THE GIVEN ROWS OF THIS SEAT. 5 by the template 'for every input the law returns true; each argument reads behind the call as it read before'; 0 by the template 'total and deterministic' (their statements: Qxb6605995aTotals.lean).
  GIVEN WITH THE SEED: the statements are not yours to turn. If you find one false, say at which input.
  Laid BY PROGRAM, IN A SANDBOX (cutbox-rows.mjs): the forced cells as the released guide's own fill.sh prints them over the translation 72cb7971eadf0b3d… (all of the seat's roots in one cut). By AI agents, Wed Nov 11 2026. No macro, syntax, notation, axiom, sorry.
-/
import Derived.Test.Qxb6605995aChecked
import GoSem.Claim
import GoSem.ClaimJoined
import GoSem.ClaimMapViews
import Derived.JoinedTies
import Derived.KernelRfl
namespace Go.Proofs.Qxb6605995a
/- THE CELL 'sum', in the pinned program and in every row, IS THE sha256 OF THE DUMP (.gsa) THAT Qxb6605995aProg.lean LOADS. Nothing in Lean hashes anything: it is a label: what it is worth is what the hold of that sum in a sandbox is worth. -/
noncomputable def Try.pinned : Pinned := { name := "qxb6605995a", sum := "72cb7971eadf0b3df17d4fadae493b6f8714bd0dadd38a6bd08a79478ca431dc", checked := Try.checked }
namespace Rows
def none {H : Type} : Left H := { results := [], args := [] }

/-- 'zzlaws_internal_envelope_b1.FnEncodeBase58MatchesLongDivision': WHATEVER THE INPUT: true; the input reads as it did. -/
def fnEncodeBase58MatchesLongDivisionSpec : ChangeSpec := { name := "fnEncodeBase58MatchesLongDivision", fn := fun _ => fun
  | [d] => { results := [.lit (.bool true)], args := [d] }
  | _ => none }
def fnEncodeBase58MatchesLongDivisionRow : OpenClaim := { program := "qxb6605995a", sum := "72cb7971eadf0b3df17d4fadae493b6f8714bd0dadd38a6bd08a79478ca431dc", func := "example.com/uchet/uchet/zzlaws_internal_envelope_b1.FnEncodeBase58MatchesLongDivision", spec := "fnEncodeBase58MatchesLongDivision", apart := false }
def FnEncodeBase58MatchesLongDivisionSaid : Prop := fnEncodeBase58MatchesLongDivisionRow.holds Try.pinned (OpenSpec.ofChange fnEncodeBase58MatchesLongDivisionSpec)

/-- ITS FALSE NEIGHBOUR: 'it returns false'. Refute it at one input. -/
def fnEncodeBase58MatchesLongDivisionWrong : ChangeSpec := { name := "fnEncodeBase58MatchesLongDivision", fn := fun _ => fun
  | [d] => { results := [.lit (.bool false)], args := [d] }
  | _ => none }
def FnEncodeBase58MatchesLongDivisionWrongFalsely : Prop := fnEncodeBase58MatchesLongDivisionRow.holds Try.pinned (OpenSpec.ofChange fnEncodeBase58MatchesLongDivisionWrong)

/-- 'zzlaws_internal_envelope_b1.FnEncodeBase58RoundTrip': WHATEVER THE INPUT: true; the input reads as it did. -/
def fnEncodeBase58RoundTripSpec : ChangeSpec := { name := "fnEncodeBase58RoundTrip", fn := fun _ => fun
  | [d] => { results := [.lit (.bool true)], args := [d] }
  | _ => none }
def fnEncodeBase58RoundTripRow : OpenClaim := { program := "qxb6605995a", sum := "72cb7971eadf0b3df17d4fadae493b6f8714bd0dadd38a6bd08a79478ca431dc", func := "example.com/uchet/uchet/zzlaws_internal_envelope_b1.FnEncodeBase58RoundTrip", spec := "fnEncodeBase58RoundTrip", apart := false }
def FnEncodeBase58RoundTripSaid : Prop := fnEncodeBase58RoundTripRow.holds Try.pinned (OpenSpec.ofChange fnEncodeBase58RoundTripSpec)

/-- ITS FALSE NEIGHBOUR: 'it returns false'. Refute it at one input. -/
def fnEncodeBase58RoundTripWrong : ChangeSpec := { name := "fnEncodeBase58RoundTrip", fn := fun _ => fun
  | [d] => { results := [.lit (.bool false)], args := [d] }
  | _ => none }
def FnEncodeBase58RoundTripWrongFalsely : Prop := fnEncodeBase58RoundTripRow.holds Try.pinned (OpenSpec.ofChange fnEncodeBase58RoundTripWrong)

/-- 'zzlaws_internal_envelope_b1.FnShortenExactByPosition': WHATEVER THE INPUT: true; the input reads as it did. -/
def fnShortenExactByPositionSpec : ChangeSpec := { name := "fnShortenExactByPosition", fn := fun _ => fun
  | [d] => { results := [.lit (.bool true)], args := [d] }
  | _ => none }
def fnShortenExactByPositionRow : OpenClaim := { program := "qxb6605995a", sum := "72cb7971eadf0b3df17d4fadae493b6f8714bd0dadd38a6bd08a79478ca431dc", func := "example.com/uchet/uchet/zzlaws_internal_envelope_b1.FnShortenExactByPosition", spec := "fnShortenExactByPosition", apart := false }
def FnShortenExactByPositionSaid : Prop := fnShortenExactByPositionRow.holds Try.pinned (OpenSpec.ofChange fnShortenExactByPositionSpec)

/-- ITS FALSE NEIGHBOUR: 'it returns false'. Refute it at one input. -/
def fnShortenExactByPositionWrong : ChangeSpec := { name := "fnShortenExactByPosition", fn := fun _ => fun
  | [d] => { results := [.lit (.bool false)], args := [d] }
  | _ => none }
def FnShortenExactByPositionWrongFalsely : Prop := fnShortenExactByPositionRow.holds Try.pinned (OpenSpec.ofChange fnShortenExactByPositionWrong)

/-- 'zzlaws_internal_envelope_b1.FnShortenCollidesExactly': WHATEVER THE INPUT: true; the input reads as it did. -/
def fnShortenCollidesExactlySpec : ChangeSpec := { name := "fnShortenCollidesExactly", fn := fun _ => fun
  | [d1, d2] => { results := [.lit (.bool true)], args := [d1, d2] }
  | _ => none }
def fnShortenCollidesExactlyRow : OpenClaim := { program := "qxb6605995a", sum := "72cb7971eadf0b3df17d4fadae493b6f8714bd0dadd38a6bd08a79478ca431dc", func := "example.com/uchet/uchet/zzlaws_internal_envelope_b1.FnShortenCollidesExactly", spec := "fnShortenCollidesExactly", apart := false }
def FnShortenCollidesExactlySaid : Prop := fnShortenCollidesExactlyRow.holds Try.pinned (OpenSpec.ofChange fnShortenCollidesExactlySpec)

/-- ITS FALSE NEIGHBOUR: 'it returns false'. Refute it at one input. -/
def fnShortenCollidesExactlyWrong : ChangeSpec := { name := "fnShortenCollidesExactly", fn := fun _ => fun
  | [d1, d2] => { results := [.lit (.bool false)], args := [d1, d2] }
  | _ => none }
def FnShortenCollidesExactlyWrongFalsely : Prop := fnShortenCollidesExactlyRow.holds Try.pinned (OpenSpec.ofChange fnShortenCollidesExactlyWrong)

/-- 'zzlaws_internal_envelope_b1.FnIsDigitExactlyTheTen': WHATEVER THE INPUT: true; the input reads as it did. -/
def fnIsDigitExactlyTheTenSpec : ChangeSpec := { name := "fnIsDigitExactlyTheTen", fn := fun _ => fun
  | [d] => { results := [.lit (.bool true)], args := [d] }
  | _ => none }
def fnIsDigitExactlyTheTenRow : OpenClaim := { program := "qxb6605995a", sum := "72cb7971eadf0b3df17d4fadae493b6f8714bd0dadd38a6bd08a79478ca431dc", func := "example.com/uchet/uchet/zzlaws_internal_envelope_b1.FnIsDigitExactlyTheTen", spec := "fnIsDigitExactlyTheTen", apart := false }
def FnIsDigitExactlyTheTenSaid : Prop := fnIsDigitExactlyTheTenRow.holds Try.pinned (OpenSpec.ofChange fnIsDigitExactlyTheTenSpec)

/-- ITS FALSE NEIGHBOUR: 'it returns false'. Refute it at one input. -/
def fnIsDigitExactlyTheTenWrong : ChangeSpec := { name := "fnIsDigitExactlyTheTen", fn := fun _ => fun
  | [d] => { results := [.lit (.bool false)], args := [d] }
  | _ => none }
def FnIsDigitExactlyTheTenWrongFalsely : Prop := fnIsDigitExactlyTheTenRow.holds Try.pinned (OpenSpec.ofChange fnIsDigitExactlyTheTenWrong)

end Rows
end Go.Proofs.Qxb6605995a
