/-
  No cell of these rows narrows 'for every input' (looked for: loops, veiled, ifaces, maps, wideKeys, modest, calm, conditions, laid).
  DERIVED. THE GIVEN ROWS OF THIS SEAT. 4 by the template 'for every input the law returns true; each argument reads behind the call as it read before'; 0 by the template 'total and deterministic' (their statements: Qxb6603105aTotals.lean).
  GIVEN WITH THE SEED: the statements are not yours to turn. If you find one false, say at which input.
  Laid BY PROGRAM, IN A SANDBOX (cutbox-rows.mjs): the forced cells as the released guide's own fill.sh prints them over the translation e70da3882edada01… (all of the seat's roots in one cut). By AI agents, Wed Nov 11 2026. No macro, syntax, notation, axiom, sorry.
-/
import Derived.Test.Qxb6603105aChecked
import GoSem.Claim
import GoSem.ClaimJoined
import GoSem.ClaimMapViews
import Derived.JoinedTies
import Derived.KernelRfl
namespace Go.Proofs.Qxb6603105a
/- THE CELL 'sum', in the pinned program and in every row, IS THE sha256 OF THE DUMP (.gsa) THAT Qxb6603105aProg.lean LOADS. Nothing in Lean hashes anything: it is a label: what it is worth is what the hold of that sum in a sandbox is worth. -/
noncomputable def Try.pinned : Pinned := { name := "qxb6603105a", sum := "e70da3882edada011f64b035b41ac93b2efac85a463c71a4e4d04f83e13d3502", checked := Try.checked }
namespace Rows
def none {H : Type} : Left H := { results := [], args := [] }

/-- 'zzlaws_root_b1.FnWordSumIsByteParityClosedForm': WHATEVER THE INPUT: true; the input reads as it did. -/
def fnWordSumIsByteParityClosedFormSpec : ChangeSpec := { name := "fnWordSumIsByteParityClosedForm", fn := fun _ => fun
  | [d1, d2] => { results := [.lit (.bool true)], args := [d1, d2] }
  | _ => none }
def fnWordSumIsByteParityClosedFormRow : OpenClaim := { program := "qxb6603105a", sum := "e70da3882edada011f64b035b41ac93b2efac85a463c71a4e4d04f83e13d3502", func := "example.com/wirefold/wirefold/zzlaws_root_b1.FnWordSumIsByteParityClosedForm", spec := "fnWordSumIsByteParityClosedForm", apart := false }
def FnWordSumIsByteParityClosedFormSaid : Prop := fnWordSumIsByteParityClosedFormRow.holds Try.pinned (OpenSpec.ofChange fnWordSumIsByteParityClosedFormSpec)

/-- ITS FALSE NEIGHBOUR: 'it returns false'. Refute it at one input. -/
def fnWordSumIsByteParityClosedFormWrong : ChangeSpec := { name := "fnWordSumIsByteParityClosedForm", fn := fun _ => fun
  | [d1, d2] => { results := [.lit (.bool false)], args := [d1, d2] }
  | _ => none }
def FnWordSumIsByteParityClosedFormWrongFalsely : Prop := fnWordSumIsByteParityClosedFormRow.holds Try.pinned (OpenSpec.ofChange fnWordSumIsByteParityClosedFormWrong)

/-- 'zzlaws_root_b1.FnWordSumResumesAtEvenSplit': WHATEVER THE INPUT: true; the input reads as it did. -/
def fnWordSumResumesAtEvenSplitSpec : ChangeSpec := { name := "fnWordSumResumesAtEvenSplit", fn := fun _ => fun
  | [d1, d2, d3] => { results := [.lit (.bool true)], args := [d1, d2, d3] }
  | _ => none }
def fnWordSumResumesAtEvenSplitRow : OpenClaim := { program := "qxb6603105a", sum := "e70da3882edada011f64b035b41ac93b2efac85a463c71a4e4d04f83e13d3502", func := "example.com/wirefold/wirefold/zzlaws_root_b1.FnWordSumResumesAtEvenSplit", spec := "fnWordSumResumesAtEvenSplit", apart := false }
def FnWordSumResumesAtEvenSplitSaid : Prop := fnWordSumResumesAtEvenSplitRow.holds Try.pinned (OpenSpec.ofChange fnWordSumResumesAtEvenSplitSpec)

/-- ITS FALSE NEIGHBOUR: 'it returns false'. Refute it at one input. -/
def fnWordSumResumesAtEvenSplitWrong : ChangeSpec := { name := "fnWordSumResumesAtEvenSplit", fn := fun _ => fun
  | [d1, d2, d3] => { results := [.lit (.bool false)], args := [d1, d2, d3] }
  | _ => none }
def FnWordSumResumesAtEvenSplitWrongFalsely : Prop := fnWordSumResumesAtEvenSplitRow.holds Try.pinned (OpenSpec.ofChange fnWordSumResumesAtEvenSplitWrong)

/-- 'zzlaws_root_b1.FnWordSumOfAPacketNeverWraps': WHATEVER THE INPUT: true; the input reads as it did. -/
def fnWordSumOfAPacketNeverWrapsSpec : ChangeSpec := { name := "fnWordSumOfAPacketNeverWraps", fn := fun _ => fun
  | [d] => { results := [.lit (.bool true)], args := [d] }
  | _ => none }
def fnWordSumOfAPacketNeverWrapsRow : OpenClaim := { program := "qxb6603105a", sum := "e70da3882edada011f64b035b41ac93b2efac85a463c71a4e4d04f83e13d3502", func := "example.com/wirefold/wirefold/zzlaws_root_b1.FnWordSumOfAPacketNeverWraps", spec := "fnWordSumOfAPacketNeverWraps", apart := false }
def FnWordSumOfAPacketNeverWrapsSaid : Prop := fnWordSumOfAPacketNeverWrapsRow.holds Try.pinned (OpenSpec.ofChange fnWordSumOfAPacketNeverWrapsSpec)

/-- ITS FALSE NEIGHBOUR: 'it returns false'. Refute it at one input. -/
def fnWordSumOfAPacketNeverWrapsWrong : ChangeSpec := { name := "fnWordSumOfAPacketNeverWraps", fn := fun _ => fun
  | [d] => { results := [.lit (.bool false)], args := [d] }
  | _ => none }
def FnWordSumOfAPacketNeverWrapsWrongFalsely : Prop := fnWordSumOfAPacketNeverWrapsRow.holds Try.pinned (OpenSpec.ofChange fnWordSumOfAPacketNeverWrapsWrong)

/-- 'zzlaws_root_b1.FnSeqLenAgreesWithHeldSegmentEnd': WHATEVER THE INPUT: true; the input reads as it did. -/
def fnSeqLenAgreesWithHeldSegmentEndSpec : ChangeSpec := { name := "fnSeqLenAgreesWithHeldSegmentEnd", fn := fun _ => fun
  | [d1, d2, d3] => { results := [.lit (.bool true)], args := [d1, d2, d3] }
  | _ => none }
def fnSeqLenAgreesWithHeldSegmentEndRow : OpenClaim := { program := "qxb6603105a", sum := "e70da3882edada011f64b035b41ac93b2efac85a463c71a4e4d04f83e13d3502", func := "example.com/wirefold/wirefold/zzlaws_root_b1.FnSeqLenAgreesWithHeldSegmentEnd", spec := "fnSeqLenAgreesWithHeldSegmentEnd", apart := false }
def FnSeqLenAgreesWithHeldSegmentEndSaid : Prop := fnSeqLenAgreesWithHeldSegmentEndRow.holds Try.pinned (OpenSpec.ofChange fnSeqLenAgreesWithHeldSegmentEndSpec)

/-- ITS FALSE NEIGHBOUR: 'it returns false'. Refute it at one input. -/
def fnSeqLenAgreesWithHeldSegmentEndWrong : ChangeSpec := { name := "fnSeqLenAgreesWithHeldSegmentEnd", fn := fun _ => fun
  | [d1, d2, d3] => { results := [.lit (.bool false)], args := [d1, d2, d3] }
  | _ => none }
def FnSeqLenAgreesWithHeldSegmentEndWrongFalsely : Prop := fnSeqLenAgreesWithHeldSegmentEndRow.holds Try.pinned (OpenSpec.ofChange fnSeqLenAgreesWithHeldSegmentEndWrong)

end Rows
end Go.Proofs.Qxb6603105a
