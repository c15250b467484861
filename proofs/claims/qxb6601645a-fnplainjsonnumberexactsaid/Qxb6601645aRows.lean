/-
  No cell of these rows narrows 'for every input' (looked for: loops, veiled, ifaces, maps, wideKeys, modest, calm, conditions, laid).
  DERIVED. THE GIVEN ROWS OF THIS SEAT. 5 by the template 'for every input the law returns true; each argument reads behind the call as it read before'; 0 by the template 'total and deterministic' (their statements: Qxb6601645aTotals.lean).
  GIVEN WITH THE SEED: the statements are not yours to turn. If you find one false, say at which input.
  Laid BY PROGRAM, IN A SANDBOX (cutbox-rows.mjs): the forced cells as the released guide's own fill.sh prints them over the translation e5c177dd198b4366… (all of the seat's roots in one cut). By AI agents, Wed Nov 11 2026. No macro, syntax, notation, axiom, sorry.
-/
import Derived.Test.Qxb6601645aChecked
import GoSem.Claim
import GoSem.ClaimJoined
import GoSem.ClaimMapViews
import Derived.JoinedTies
import Derived.KernelRfl
namespace Go.Proofs.Qxb6601645a
/- THE CELL 'sum', in the pinned program and in every row, IS THE sha256 OF THE DUMP (.gsa) THAT Qxb6601645aProg.lean LOADS. Nothing in Lean hashes anything: it is a label: what it is worth is what the hold of that sum in a sandbox is worth. -/
noncomputable def Try.pinned : Pinned := { name := "qxb6601645a", sum := "e5c177dd198b436611f18274f7bdd5179dd43ee11cd37da06751d6c80cee245d", checked := Try.checked }
namespace Rows
def none {H : Type} : Left H := { results := [], args := [] }

/-- 'zzlaws_pkg_plainjson_b1.FnPlainjsonStrExact': WHATEVER THE INPUT: true; the input reads as it did. -/
def fnPlainjsonStrExactSpec : ChangeSpec := { name := "fnPlainjsonStrExact", fn := fun _ => fun
  | [d1, d2, d3, d4] => { results := [.lit (.bool true)], args := [d1, d2, d3, d4] }
  | _ => none }
def fnPlainjsonStrExactRow : OpenClaim := { program := "qxb6601645a", sum := "e5c177dd198b436611f18274f7bdd5179dd43ee11cd37da06751d6c80cee245d", func := "example.com/polyphony/polyphony/zzlaws_pkg_plainjson_b1.FnPlainjsonStrExact", spec := "fnPlainjsonStrExact", inPlace := ["internal/bytealg.IndexByteString"], apart := false }
def FnPlainjsonStrExactSaid : Prop := fnPlainjsonStrExactRow.holds Try.pinned (OpenSpec.ofChange fnPlainjsonStrExactSpec)

/-- ITS FALSE NEIGHBOUR: 'it returns false'. Refute it at one input. -/
def fnPlainjsonStrExactWrong : ChangeSpec := { name := "fnPlainjsonStrExact", fn := fun _ => fun
  | [d1, d2, d3, d4] => { results := [.lit (.bool false)], args := [d1, d2, d3, d4] }
  | _ => none }
def FnPlainjsonStrExactWrongFalsely : Prop := fnPlainjsonStrExactRow.holds Try.pinned (OpenSpec.ofChange fnPlainjsonStrExactWrong)

/-- 'zzlaws_pkg_plainjson_b1.FnPlainjsonStrRoundTrip': WHATEVER THE INPUT: true; the input reads as it did. -/
def fnPlainjsonStrRoundTripSpec : ChangeSpec := { name := "fnPlainjsonStrRoundTrip", fn := fun _ => fun
  | [d1, d2, d3, d4] => { results := [.lit (.bool true)], args := [d1, d2, d3, d4] }
  | _ => none }
def fnPlainjsonStrRoundTripRow : OpenClaim := { program := "qxb6601645a", sum := "e5c177dd198b436611f18274f7bdd5179dd43ee11cd37da06751d6c80cee245d", func := "example.com/polyphony/polyphony/zzlaws_pkg_plainjson_b1.FnPlainjsonStrRoundTrip", spec := "fnPlainjsonStrRoundTrip", inPlace := ["internal/bytealg.IndexByteString"], apart := false }
def FnPlainjsonStrRoundTripSaid : Prop := fnPlainjsonStrRoundTripRow.holds Try.pinned (OpenSpec.ofChange fnPlainjsonStrRoundTripSpec)

/-- ITS FALSE NEIGHBOUR: 'it returns false'. Refute it at one input. -/
def fnPlainjsonStrRoundTripWrong : ChangeSpec := { name := "fnPlainjsonStrRoundTrip", fn := fun _ => fun
  | [d1, d2, d3, d4] => { results := [.lit (.bool false)], args := [d1, d2, d3, d4] }
  | _ => none }
def FnPlainjsonStrRoundTripWrongFalsely : Prop := fnPlainjsonStrRoundTripRow.holds Try.pinned (OpenSpec.ofChange fnPlainjsonStrRoundTripWrong)

/-- 'zzlaws_pkg_plainjson_b1.FnPlainjsonNumberExact': WHATEVER THE INPUT: true; the input reads as it did. -/
def fnPlainjsonNumberExactSpec : ChangeSpec := { name := "fnPlainjsonNumberExact", fn := fun _ => fun
  | [d1, d2, d3, d4] => { results := [.lit (.bool true)], args := [d1, d2, d3, d4] }
  | _ => none }
def fnPlainjsonNumberExactRow : OpenClaim := { program := "qxb6601645a", sum := "e5c177dd198b436611f18274f7bdd5179dd43ee11cd37da06751d6c80cee245d", func := "example.com/polyphony/polyphony/zzlaws_pkg_plainjson_b1.FnPlainjsonNumberExact", spec := "fnPlainjsonNumberExact", apart := false }
def FnPlainjsonNumberExactSaid : Prop := fnPlainjsonNumberExactRow.holds Try.pinned (OpenSpec.ofChange fnPlainjsonNumberExactSpec)

/-- ITS FALSE NEIGHBOUR: 'it returns false'. Refute it at one input. -/
def fnPlainjsonNumberExactWrong : ChangeSpec := { name := "fnPlainjsonNumberExact", fn := fun _ => fun
  | [d1, d2, d3, d4] => { results := [.lit (.bool false)], args := [d1, d2, d3, d4] }
  | _ => none }
def FnPlainjsonNumberExactWrongFalsely : Prop := fnPlainjsonNumberExactRow.holds Try.pinned (OpenSpec.ofChange fnPlainjsonNumberExactWrong)

/-- 'zzlaws_pkg_plainjson_b1.FnPlainjsonNumberReadsEveryInt64': WHATEVER THE INPUT: true; the input reads as it did. -/
def fnPlainjsonNumberReadsEveryInt64Spec : ChangeSpec := { name := "fnPlainjsonNumberReadsEveryInt64", fn := fun _ => fun
  | [d1, d2, d3, d4, d5] => { results := [.lit (.bool true)], args := [d1, d2, d3, d4, d5] }
  | _ => none }
def fnPlainjsonNumberReadsEveryInt64Row : OpenClaim := { program := "qxb6601645a", sum := "e5c177dd198b436611f18274f7bdd5179dd43ee11cd37da06751d6c80cee245d", func := "example.com/polyphony/polyphony/zzlaws_pkg_plainjson_b1.FnPlainjsonNumberReadsEveryInt64", spec := "fnPlainjsonNumberReadsEveryInt64", apart := false }
def FnPlainjsonNumberReadsEveryInt64Said : Prop := fnPlainjsonNumberReadsEveryInt64Row.holds Try.pinned (OpenSpec.ofChange fnPlainjsonNumberReadsEveryInt64Spec)

/-- ITS FALSE NEIGHBOUR: 'it returns false'. Refute it at one input. -/
def fnPlainjsonNumberReadsEveryInt64Wrong : ChangeSpec := { name := "fnPlainjsonNumberReadsEveryInt64", fn := fun _ => fun
  | [d1, d2, d3, d4, d5] => { results := [.lit (.bool false)], args := [d1, d2, d3, d4, d5] }
  | _ => none }
def FnPlainjsonNumberReadsEveryInt64WrongFalsely : Prop := fnPlainjsonNumberReadsEveryInt64Row.holds Try.pinned (OpenSpec.ofChange fnPlainjsonNumberReadsEveryInt64Wrong)

/-- 'zzlaws_pkg_plainjson_b1.FnPlainjsonNumberRefusesLeadingZero': WHATEVER THE INPUT: true; the input reads as it did. -/
def fnPlainjsonNumberRefusesLeadingZeroSpec : ChangeSpec := { name := "fnPlainjsonNumberRefusesLeadingZero", fn := fun _ => fun
  | [d1, d2, d3, d4, d5, d6] => { results := [.lit (.bool true)], args := [d1, d2, d3, d4, d5, d6] }
  | _ => none }
def fnPlainjsonNumberRefusesLeadingZeroRow : OpenClaim := { program := "qxb6601645a", sum := "e5c177dd198b436611f18274f7bdd5179dd43ee11cd37da06751d6c80cee245d", func := "example.com/polyphony/polyphony/zzlaws_pkg_plainjson_b1.FnPlainjsonNumberRefusesLeadingZero", spec := "fnPlainjsonNumberRefusesLeadingZero", apart := false }
def FnPlainjsonNumberRefusesLeadingZeroSaid : Prop := fnPlainjsonNumberRefusesLeadingZeroRow.holds Try.pinned (OpenSpec.ofChange fnPlainjsonNumberRefusesLeadingZeroSpec)

/-- ITS FALSE NEIGHBOUR: 'it returns false'. Refute it at one input. -/
def fnPlainjsonNumberRefusesLeadingZeroWrong : ChangeSpec := { name := "fnPlainjsonNumberRefusesLeadingZero", fn := fun _ => fun
  | [d1, d2, d3, d4, d5, d6] => { results := [.lit (.bool false)], args := [d1, d2, d3, d4, d5, d6] }
  | _ => none }
def FnPlainjsonNumberRefusesLeadingZeroWrongFalsely : Prop := fnPlainjsonNumberRefusesLeadingZeroRow.holds Try.pinned (OpenSpec.ofChange fnPlainjsonNumberRefusesLeadingZeroWrong)

end Rows
end Go.Proofs.Qxb6601645a
