/-
  No cell of these rows narrows 'for every input' (looked for: loops, veiled, ifaces, maps, wideKeys, modest, calm, conditions, laid).
  DERIVED. THE GIVEN ROWS OF THIS SEAT. 5 by the template 'for every input the law returns true; each argument reads behind the call as it read before'; 0 by the template 'total and deterministic' (their statements: Qxb6002606aTotals.lean).
  GIVEN WITH THE SEED: the statements are not yours to turn. If you find one false, say at which input.
  Laid BY PROGRAM, IN A SANDBOX (cutbox-rows.mjs): the forced cells as the released guide's own fill.sh prints them over the translation 1bc826e937a6ad89… (all of the seat's roots in one cut). By AI agents, Wed Nov 11 2026. No macro, syntax, notation, axiom, sorry.
-/
import Derived.Test.Qxb6002606aChecked
import GoSem.Claim
import GoSem.ClaimJoined
import GoSem.ClaimMapViews
import Derived.JoinedTies
import Derived.KernelRfl
namespace Go.Proofs.Qxb6002606a
/- THE CELL 'sum', in the pinned program and in every row, IS THE sha256 OF THE DUMP (.gsa) THAT Qxb6002606aProg.lean LOADS. Nothing in Lean hashes anything: it is a label: what it is worth is what the hold of that sum in a sandbox is worth. -/
noncomputable def Try.pinned : Pinned := { name := "qxb6002606a", sum := "1bc826e937a6ad89349d759b8f51a52eda549177e780f576c957f3f2d8b69336", checked := Try.checked }
namespace Rows
def none {H : Type} : Left H := { results := [], args := [] }

/-- 'zzlaws_wire_g2.FnEarlierPicksFirstRealFault': WHATEVER THE INPUT: true; the input reads as it did. -/
def fnEarlierPicksFirstRealFaultSpec : ChangeSpec := { name := "fnEarlierPicksFirstRealFault", fn := fun _ => fun
  | [d1, d2, d3] => { results := [.lit (.bool true)], args := [d1, d2, d3] }
  | _ => none }
def fnEarlierPicksFirstRealFaultRow : OpenClaim := { program := "qxb6002606a", sum := "1bc826e937a6ad89349d759b8f51a52eda549177e780f576c957f3f2d8b69336", func := "example.com/weftwire/weftwire/zzlaws_wire_g2.FnEarlierPicksFirstRealFault", spec := "fnEarlierPicksFirstRealFault", apart := false }
def FnEarlierPicksFirstRealFaultSaid : Prop := fnEarlierPicksFirstRealFaultRow.holds Try.pinned (OpenSpec.ofChange fnEarlierPicksFirstRealFaultSpec)

/-- ITS FALSE NEIGHBOUR: 'it returns false'. Refute it at one input. -/
def fnEarlierPicksFirstRealFaultWrong : ChangeSpec := { name := "fnEarlierPicksFirstRealFault", fn := fun _ => fun
  | [d1, d2, d3] => { results := [.lit (.bool false)], args := [d1, d2, d3] }
  | _ => none }
def FnEarlierPicksFirstRealFaultWrongFalsely : Prop := fnEarlierPicksFirstRealFaultRow.holds Try.pinned (OpenSpec.ofChange fnEarlierPicksFirstRealFaultWrong)

/-- 'zzlaws_wire_g2.FnOverrunResetsMonotone': WHATEVER THE INPUT: true; the input reads as it did. -/
def fnOverrunResetsMonotoneSpec : ChangeSpec := { name := "fnOverrunResetsMonotone", fn := fun _ => fun
  | [d1, d2] => { results := [.lit (.bool true)], args := [d1, d2] }
  | _ => none }
def fnOverrunResetsMonotoneRow : OpenClaim := { program := "qxb6002606a", sum := "1bc826e937a6ad89349d759b8f51a52eda549177e780f576c957f3f2d8b69336", func := "example.com/weftwire/weftwire/zzlaws_wire_g2.FnOverrunResetsMonotone", spec := "fnOverrunResetsMonotone", apart := false }
def FnOverrunResetsMonotoneSaid : Prop := fnOverrunResetsMonotoneRow.holds Try.pinned (OpenSpec.ofChange fnOverrunResetsMonotoneSpec)

/-- ITS FALSE NEIGHBOUR: 'it returns false'. Refute it at one input. -/
def fnOverrunResetsMonotoneWrong : ChangeSpec := { name := "fnOverrunResetsMonotone", fn := fun _ => fun
  | [d1, d2] => { results := [.lit (.bool false)], args := [d1, d2] }
  | _ => none }
def FnOverrunResetsMonotoneWrongFalsely : Prop := fnOverrunResetsMonotoneRow.holds Try.pinned (OpenSpec.ofChange fnOverrunResetsMonotoneWrong)

/-- 'zzlaws_wire_g2.FnHasMarkerSumSpec': WHATEVER THE INPUT: true; the input reads as it did. -/
def fnHasMarkerSumSpecSpec : ChangeSpec := { name := "fnHasMarkerSumSpec", fn := fun _ => fun
  | [d] => { results := [.lit (.bool true)], args := [d] }
  | _ => none }
def fnHasMarkerSumSpecRow : OpenClaim := { program := "qxb6002606a", sum := "1bc826e937a6ad89349d759b8f51a52eda549177e780f576c957f3f2d8b69336", func := "example.com/weftwire/weftwire/zzlaws_wire_g2.FnHasMarkerSumSpec", spec := "fnHasMarkerSumSpec", apart := false }
def FnHasMarkerSumSpecSaid : Prop := fnHasMarkerSumSpecRow.holds Try.pinned (OpenSpec.ofChange fnHasMarkerSumSpecSpec)

/-- ITS FALSE NEIGHBOUR: 'it returns false'. Refute it at one input. -/
def fnHasMarkerSumSpecWrong : ChangeSpec := { name := "fnHasMarkerSumSpec", fn := fun _ => fun
  | [d] => { results := [.lit (.bool false)], args := [d] }
  | _ => none }
def FnHasMarkerSumSpecWrongFalsely : Prop := fnHasMarkerSumSpecRow.holds Try.pinned (OpenSpec.ofChange fnHasMarkerSumSpecWrong)

/-- 'zzlaws_wire_g2.FnPMSIParseThenAppendRestoresValue': WHATEVER THE INPUT: true; the input reads as it did. -/
def fnPMSIParseThenAppendRestoresValueSpec : ChangeSpec := { name := "fnPMSIParseThenAppendRestoresValue", fn := fun _ => fun
  | [d] => { results := [.lit (.bool true)], args := [d] }
  | _ => none }
def fnPMSIParseThenAppendRestoresValueRow : OpenClaim := { program := "qxb6002606a", sum := "1bc826e937a6ad89349d759b8f51a52eda549177e780f576c957f3f2d8b69336", func := "example.com/weftwire/weftwire/zzlaws_wire_g2.FnPMSIParseThenAppendRestoresValue", spec := "fnPMSIParseThenAppendRestoresValue", apart := false }
def FnPMSIParseThenAppendRestoresValueSaid : Prop := fnPMSIParseThenAppendRestoresValueRow.holds Try.pinned (OpenSpec.ofChange fnPMSIParseThenAppendRestoresValueSpec)

/-- ITS FALSE NEIGHBOUR: 'it returns false'. Refute it at one input. -/
def fnPMSIParseThenAppendRestoresValueWrong : ChangeSpec := { name := "fnPMSIParseThenAppendRestoresValue", fn := fun _ => fun
  | [d] => { results := [.lit (.bool false)], args := [d] }
  | _ => none }
def FnPMSIParseThenAppendRestoresValueWrongFalsely : Prop := fnPMSIParseThenAppendRestoresValueRow.holds Try.pinned (OpenSpec.ofChange fnPMSIParseThenAppendRestoresValueWrong)

/-- 'zzlaws_wire_g2.FnPMSIAppendThenParseRecoversTunnel': WHATEVER THE INPUT: true; the input reads as it did. -/
def fnPMSIAppendThenParseRecoversTunnelSpec : ChangeSpec := { name := "fnPMSIAppendThenParseRecoversTunnel", fn := fun _ => fun
  | [d1, d2, d3, d4] => { results := [.lit (.bool true)], args := [d1, d2, d3, d4] }
  | _ => none }
def fnPMSIAppendThenParseRecoversTunnelRow : OpenClaim := { program := "qxb6002606a", sum := "1bc826e937a6ad89349d759b8f51a52eda549177e780f576c957f3f2d8b69336", func := "example.com/weftwire/weftwire/zzlaws_wire_g2.FnPMSIAppendThenParseRecoversTunnel", spec := "fnPMSIAppendThenParseRecoversTunnel", apart := false }
def FnPMSIAppendThenParseRecoversTunnelSaid : Prop := fnPMSIAppendThenParseRecoversTunnelRow.holds Try.pinned (OpenSpec.ofChange fnPMSIAppendThenParseRecoversTunnelSpec)

/-- ITS FALSE NEIGHBOUR: 'it returns false'. Refute it at one input. -/
def fnPMSIAppendThenParseRecoversTunnelWrong : ChangeSpec := { name := "fnPMSIAppendThenParseRecoversTunnel", fn := fun _ => fun
  | [d1, d2, d3, d4] => { results := [.lit (.bool false)], args := [d1, d2, d3, d4] }
  | _ => none }
def FnPMSIAppendThenParseRecoversTunnelWrongFalsely : Prop := fnPMSIAppendThenParseRecoversTunnelRow.holds Try.pinned (OpenSpec.ofChange fnPMSIAppendThenParseRecoversTunnelWrong)

end Rows
end Go.Proofs.Qxb6002606a
