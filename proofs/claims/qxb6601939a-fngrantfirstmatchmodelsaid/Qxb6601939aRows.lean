/-
  No cell of these rows narrows 'for every input' (looked for: loops, veiled, ifaces, maps, wideKeys, modest, calm, conditions, laid).
  DERIVED. THE GIVEN ROWS OF THIS SEAT. 4 by the template 'for every input the law returns true; each argument reads behind the call as it read before'; 0 by the template 'total and deterministic' (their statements: Qxb6601939aTotals.lean).
  GIVEN WITH THE SEED: the statements are not yours to turn. If you find one false, say at which input.
  Laid BY PROGRAM, IN A SANDBOX (cutbox-rows.mjs): the forced cells as the released guide's own fill.sh prints them over the translation e41d561e5be2a7d8… (all of the seat's roots in one cut). By AI agents, Wed Nov 11 2026. No macro, syntax, notation, axiom, sorry.
-/
import Derived.Test.Qxb6601939aChecked
import GoSem.Claim
import GoSem.ClaimJoined
import GoSem.ClaimMapViews
import Derived.JoinedTies
import Derived.KernelRfl
namespace Go.Proofs.Qxb6601939a
/- THE CELL 'sum', in the pinned program and in every row, IS THE sha256 OF THE DUMP (.gsa) THAT Qxb6601939aProg.lean LOADS. Nothing in Lean hashes anything: it is a label: what it is worth is what the hold of that sum in a sandbox is worth. -/
noncomputable def Try.pinned : Pinned := { name := "qxb6601939a", sum := "e41d561e5be2a7d84371774d089452c63d6b46d01736bca03d535cc3f8a93509", checked := Try.checked }
namespace Rows
def none {H : Type} : Left H := { results := [], args := [] }

/-- 'zzlaws_internal_permission_b1.FnGrantFirstMatchModel': WHATEVER THE INPUT: true; the input reads as it did. -/
def fnGrantFirstMatchModelSpec : ChangeSpec := { name := "fnGrantFirstMatchModel", fn := fun _ => fun
  | [d1, d2, d3, d4] => { results := [.lit (.bool true)], args := [d1, d2, d3, d4] }
  | _ => none }
def fnGrantFirstMatchModelRow : OpenClaim := { program := "qxb6601939a", sum := "e41d561e5be2a7d84371774d089452c63d6b46d01736bca03d535cc3f8a93509", func := "example.com/idhini/idhini/zzlaws_internal_permission_b1.FnGrantFirstMatchModel", spec := "fnGrantFirstMatchModel", apart := false }
def FnGrantFirstMatchModelSaid : Prop := fnGrantFirstMatchModelRow.holds Try.pinned (OpenSpec.ofChange fnGrantFirstMatchModelSpec)

/-- ITS FALSE NEIGHBOUR: 'it returns false'. Refute it at one input. -/
def fnGrantFirstMatchModelWrong : ChangeSpec := { name := "fnGrantFirstMatchModel", fn := fun _ => fun
  | [d1, d2, d3, d4] => { results := [.lit (.bool false)], args := [d1, d2, d3, d4] }
  | _ => none }
def FnGrantFirstMatchModelWrongFalsely : Prop := fnGrantFirstMatchModelRow.holds Try.pinned (OpenSpec.ofChange fnGrantFirstMatchModelWrong)

/-- 'zzlaws_internal_permission_b1.FnGrantConcat': WHATEVER THE INPUT: true; the input reads as it did. -/
def fnGrantConcatSpec : ChangeSpec := { name := "fnGrantConcat", fn := fun _ => fun
  | [d1, d2, d3, d4, d5] => { results := [.lit (.bool true)], args := [d1, d2, d3, d4, d5] }
  | _ => none }
def fnGrantConcatRow : OpenClaim := { program := "qxb6601939a", sum := "e41d561e5be2a7d84371774d089452c63d6b46d01736bca03d535cc3f8a93509", func := "example.com/idhini/idhini/zzlaws_internal_permission_b1.FnGrantConcat", spec := "fnGrantConcat", apart := false }
def FnGrantConcatSaid : Prop := fnGrantConcatRow.holds Try.pinned (OpenSpec.ofChange fnGrantConcatSpec)

/-- ITS FALSE NEIGHBOUR: 'it returns false'. Refute it at one input. -/
def fnGrantConcatWrong : ChangeSpec := { name := "fnGrantConcat", fn := fun _ => fun
  | [d1, d2, d3, d4, d5] => { results := [.lit (.bool false)], args := [d1, d2, d3, d4, d5] }
  | _ => none }
def FnGrantConcatWrongFalsely : Prop := fnGrantConcatRow.holds Try.pinned (OpenSpec.ofChange fnGrantConcatWrong)

/-- 'zzlaws_internal_permission_b1.FnStaffBranchSameIffSameTag': WHATEVER THE INPUT: true; the input reads as it did. -/
def fnStaffBranchSameIffSameTagSpec : ChangeSpec := { name := "fnStaffBranchSameIffSameTag", fn := fun _ => fun
  | [d1, d2] => { results := [.lit (.bool true)], args := [d1, d2] }
  | _ => none }
def fnStaffBranchSameIffSameTagRow : OpenClaim := { program := "qxb6601939a", sum := "e41d561e5be2a7d84371774d089452c63d6b46d01736bca03d535cc3f8a93509", func := "example.com/idhini/idhini/zzlaws_internal_permission_b1.FnStaffBranchSameIffSameTag", spec := "fnStaffBranchSameIffSameTag", apart := false }
def FnStaffBranchSameIffSameTagSaid : Prop := fnStaffBranchSameIffSameTagRow.holds Try.pinned (OpenSpec.ofChange fnStaffBranchSameIffSameTagSpec)

/-- ITS FALSE NEIGHBOUR: 'it returns false'. Refute it at one input. -/
def fnStaffBranchSameIffSameTagWrong : ChangeSpec := { name := "fnStaffBranchSameIffSameTag", fn := fun _ => fun
  | [d1, d2] => { results := [.lit (.bool false)], args := [d1, d2] }
  | _ => none }
def FnStaffBranchSameIffSameTagWrongFalsely : Prop := fnStaffBranchSameIffSameTagRow.holds Try.pinned (OpenSpec.ofChange fnStaffBranchSameIffSameTagWrong)

/-- 'zzlaws_internal_permission_b1.FnUnitTagsFreshEachCall': WHATEVER THE INPUT: true; the input reads as it did. -/
def fnUnitTagsFreshEachCallSpec : ChangeSpec := { name := "fnUnitTagsFreshEachCall", fn := fun _ => fun
  | [d] => { results := [.lit (.bool true)], args := [d] }
  | _ => none }
def fnUnitTagsFreshEachCallRow : OpenClaim := { program := "qxb6601939a", sum := "e41d561e5be2a7d84371774d089452c63d6b46d01736bca03d535cc3f8a93509", func := "example.com/idhini/idhini/zzlaws_internal_permission_b1.FnUnitTagsFreshEachCall", spec := "fnUnitTagsFreshEachCall", apart := false }
def FnUnitTagsFreshEachCallSaid : Prop := fnUnitTagsFreshEachCallRow.holds Try.pinned (OpenSpec.ofChange fnUnitTagsFreshEachCallSpec)

/-- ITS FALSE NEIGHBOUR: 'it returns false'. Refute it at one input. -/
def fnUnitTagsFreshEachCallWrong : ChangeSpec := { name := "fnUnitTagsFreshEachCall", fn := fun _ => fun
  | [d] => { results := [.lit (.bool false)], args := [d] }
  | _ => none }
def FnUnitTagsFreshEachCallWrongFalsely : Prop := fnUnitTagsFreshEachCallRow.holds Try.pinned (OpenSpec.ofChange fnUnitTagsFreshEachCallWrong)

end Rows
end Go.Proofs.Qxb6601939a
