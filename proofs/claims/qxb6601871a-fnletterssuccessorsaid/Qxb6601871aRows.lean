/-
  No cell of these rows narrows 'for every input' (looked for: loops, veiled, ifaces, maps, wideKeys, modest, calm, conditions, laid).
  DERIVED. THE GIVEN ROWS OF THIS SEAT. 3 by the template 'for every input the law returns true; each argument reads behind the call as it read before'; 0 by the template 'total and deterministic' (their statements: Qxb6601871aTotals.lean).
  GIVEN WITH THE SEED: the statements are not yours to turn. If you find one false, say at which input.
  Laid BY PROGRAM, IN A SANDBOX (cutbox-rows.mjs): the forced cells as the released guide's own fill.sh prints them over the translation 45c3c177996286fc… (all of the seat's roots in one cut). By AI agents, Wed Nov 11 2026. No macro, syntax, notation, axiom, sorry.
-/
import Derived.Test.Qxb6601871aChecked
import GoSem.Claim
import GoSem.ClaimJoined
import GoSem.ClaimMapViews
import Derived.JoinedTies
import Derived.KernelRfl
namespace Go.Proofs.Qxb6601871a
/- THE CELL 'sum', in the pinned program and in every row, IS THE sha256 OF THE DUMP (.gsa) THAT Qxb6601871aProg.lean LOADS. Nothing in Lean hashes anything: it is a label: what it is worth is what the hold of that sum in a sandbox is worth. -/
noncomputable def Try.pinned : Pinned := { name := "qxb6601871a", sum := "45c3c177996286fc0e4af6d5eb75bf3b48951f3d630102bc4d0784a9a259949e", checked := Try.checked }
namespace Rows
def none {H : Type} : Left H := { results := [], args := [] }

/-- 'zzlaws_internal_bench_b1.FnLettersCanonical': WHATEVER THE INPUT: true; the input reads as it did. -/
def fnLettersCanonicalSpec : ChangeSpec := { name := "fnLettersCanonical", fn := fun _ => fun
  | [d] => { results := [.lit (.bool true)], args := [d] }
  | _ => none }
def fnLettersCanonicalRow : OpenClaim := { program := "qxb6601871a", sum := "45c3c177996286fc0e4af6d5eb75bf3b48951f3d630102bc4d0784a9a259949e", func := "example.com/demur/demur/zzlaws_internal_bench_b1.FnLettersCanonical", spec := "fnLettersCanonical", apart := false }
def FnLettersCanonicalSaid : Prop := fnLettersCanonicalRow.holds Try.pinned (OpenSpec.ofChange fnLettersCanonicalSpec)

/-- ITS FALSE NEIGHBOUR: 'it returns false'. Refute it at one input. -/
def fnLettersCanonicalWrong : ChangeSpec := { name := "fnLettersCanonical", fn := fun _ => fun
  | [d] => { results := [.lit (.bool false)], args := [d] }
  | _ => none }
def FnLettersCanonicalWrongFalsely : Prop := fnLettersCanonicalRow.holds Try.pinned (OpenSpec.ofChange fnLettersCanonicalWrong)

/-- 'zzlaws_internal_bench_b1.FnLettersShortlex': WHATEVER THE INPUT: true; the input reads as it did. -/
def fnLettersShortlexSpec : ChangeSpec := { name := "fnLettersShortlex", fn := fun _ => fun
  | [d1, d2] => { results := [.lit (.bool true)], args := [d1, d2] }
  | _ => none }
def fnLettersShortlexRow : OpenClaim := { program := "qxb6601871a", sum := "45c3c177996286fc0e4af6d5eb75bf3b48951f3d630102bc4d0784a9a259949e", func := "example.com/demur/demur/zzlaws_internal_bench_b1.FnLettersShortlex", spec := "fnLettersShortlex", apart := false }
def FnLettersShortlexSaid : Prop := fnLettersShortlexRow.holds Try.pinned (OpenSpec.ofChange fnLettersShortlexSpec)

/-- ITS FALSE NEIGHBOUR: 'it returns false'. Refute it at one input. -/
def fnLettersShortlexWrong : ChangeSpec := { name := "fnLettersShortlex", fn := fun _ => fun
  | [d1, d2] => { results := [.lit (.bool false)], args := [d1, d2] }
  | _ => none }
def FnLettersShortlexWrongFalsely : Prop := fnLettersShortlexRow.holds Try.pinned (OpenSpec.ofChange fnLettersShortlexWrong)

/-- 'zzlaws_internal_bench_b1.FnLettersSuccessor': WHATEVER THE INPUT: true; the input reads as it did. -/
def fnLettersSuccessorSpec : ChangeSpec := { name := "fnLettersSuccessor", fn := fun _ => fun
  | [d] => { results := [.lit (.bool true)], args := [d] }
  | _ => none }
def fnLettersSuccessorRow : OpenClaim := { program := "qxb6601871a", sum := "45c3c177996286fc0e4af6d5eb75bf3b48951f3d630102bc4d0784a9a259949e", func := "example.com/demur/demur/zzlaws_internal_bench_b1.FnLettersSuccessor", spec := "fnLettersSuccessor", apart := false }
def FnLettersSuccessorSaid : Prop := fnLettersSuccessorRow.holds Try.pinned (OpenSpec.ofChange fnLettersSuccessorSpec)

/-- ITS FALSE NEIGHBOUR: 'it returns false'. Refute it at one input. -/
def fnLettersSuccessorWrong : ChangeSpec := { name := "fnLettersSuccessor", fn := fun _ => fun
  | [d] => { results := [.lit (.bool false)], args := [d] }
  | _ => none }
def FnLettersSuccessorWrongFalsely : Prop := fnLettersSuccessorRow.holds Try.pinned (OpenSpec.ofChange fnLettersSuccessorWrong)

end Rows
end Go.Proofs.Qxb6601871a
