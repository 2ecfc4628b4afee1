/-
  THE PROOF OF 'Rows.FnStaffBranchSameIffSameTagSaid': the row's step, typed by hand after the guide's template for two arguments that are pointers to strings.
-/
import Derived.Test.Qxb6601939aBranch
import Derived.WalkKit
import Derived.ProofKit
import Derived.OpenShut
import Derived.ShutString
import Derived.ChangeOld
import Derived.Below
namespace Go.Proofs.Qxb6601939a.fnStaffBranchSameIffSameTag
open Go.ChangeShapes Go.ChangeAt Go.RowKit Branch


theorem own : ownKnob Try.prog.godebug = none := by kernel_rfl
theorem laidOut : laidOutB Try.prog = true := by kernel_rfl
theorem cells9 : Try.prog.cellsOf 9 = 1 := by kernel_rfl

/-- A '*string' that came in: nil, or an address whose cell holds a string. -/
theorem open_arg {H : Type} {enc : TypeId × Value → H} {W : World} {base : Nat} {v : Value} {d : DataW H} {ps : List MemPlace}
    (hval : Value.okWide Try.prog W .any base 39 v) (hd : DataW.Trod enc Try.prog W 0 (fun _ => true) true 39 v d ps) :
    ∃ a s, v = .pointer a ∧ Arg W a s ∧ s.size ≤ maxLen := by
  rcases Go.ChangeShapes.open_ptr Try.underlying39 (by rw [cells9]; omega) hval hd with ⟨rfl, _, _⟩ | ⟨b, off, cs, y, fuel, rfl, _, _, hlen, hcell, hy⟩
  · exact ⟨none, ⟨#[]⟩, rfl, .inl ⟨rfl, rfl⟩, by decide⟩
  · obtain ⟨s, rfl, _, hs⟩ := DataW.trod_string Try.underlying9 hy
    have hc := hcell 0 (by rw [cells9]; omega)
    have hc' : W.cell? ⟨b, off, none⟩ = some (.string s) := by simpa using hc
    refine ⟨some ⟨b, off, none⟩, s, rfl, .inr ⟨b, off, rfl, hc', ?_⟩, hs⟩
    exact World.block_lt_of_cell? _ _ hc'

set_option maxRecDepth 100000 in
theorem lifted (os : Os) (started : os.Started) (H : Type) (enc : TypeId × Value → H) :
    ReturnsInHanded {} Try.checked os 5 .any (Rows.fnStaffBranchSameIffSameTagSpec.pre6 enc Try.prog Try.f5 Rows.fnStaffBranchSameIffSameTagRow.domain false) (Rows.fnStaffBranchSameIffSameTagSpec.post enc Try.prog Try.f5 false true false false) := by
  refine returnsInHanded_of_change (C := Try.checked) own started (by kernel_rfl) Try.func5
    (ChangeSpec.witness6 (enc := enc) (C := Try.checked) false ⟨#[], #[.pointer none, .pointer none], []⟩ 8 (by kernel_rfl) (by kernel_rfl) (by kernel_rfl) (by kernel_rfl)) ?_
  intro W base args ds gs before hval0 hW hcnd _
  have hval : ∀ (j : Nat) t v, Try.f5.params[j]? = some t → args[j]? = some v → Value.okWide Try.prog W .any base t v := hval0
  have hW' := hW
  obtain ⟨p, q, hA0, hV, rfl, hfz, hnd⟩ := hW
  have hA : DataW.TrodAll enc Try.prog W 0 (fun _ => true) true Try.f5.params.toList args.toList ds p := hA0
  rw [Try.params5] at hA hval
  obtain ⟨v0, vs0, d0, ds0, p0, q0, hargs, rfl, rfl, h0, r0⟩ := trodAll_cons hA
  obtain ⟨v1, vs1, d1, ds1, p1, q1, rfl, rfl, rfl, h1, r1⟩ := trodAll_cons r0
  obtain ⟨rfl, rfl, rfl⟩ := trodAll_nil r1
  obtain rfl : args = #[v0, v1] := by cases args; simp_all
  obtain ⟨rfl, rfl⟩ := trodVars_none hV
  have lt0 : ∀ x ∈ p0, x.block < W.heap.size := by obtain ⟨m, hm⟩ := h0; exact DataW.trod_lt m _ _ _ hm
  have lt1 : ∀ x ∈ p1, x.block < W.heap.size := by obtain ⟨m, hm⟩ := h1; exact DataW.trod_lt m _ _ _ hm
  obtain ⟨a, s, rfl, ha, ms⟩ := open_arg (hval 0 39 v0 rfl rfl) h0
  obtain ⟨b, t, rfl, hb, mt⟩ := open_arg (hval 1 39 v1 rfl rfl) h1
  clear hA0 hval0
  refine (same_any a b s t W ha hb ms mt).mono fun e W' ⟨he, bel⟩ => ?_
  subst he
  exact ⟨_, rfl, _, _, _, [], _, [], hW', trodAll_mk1 (shut_bool Try.underlying4 _), (trodAll_cons_mk (Below.trod laidOut (by kernel_rfl) (of_decide_eq_true (by kernel_rfl)) h0 bel lt0) (trodAll_cons_mk (Below.trod laidOut (by kernel_rfl) (of_decide_eq_true (by kernel_rfl)) h1 bel lt1) trodAll_mk0)), rfl, bel.frame _, fun h => by cases h⟩

theorem over : Rows.fnStaffBranchSameIffSameTagRow.holds Try.pinned (OpenSpec.ofChange Rows.fnStaffBranchSameIffSameTagSpec) :=
  OpenClaim.holds_of_wide 5 Try.f5 rfl rfl rfl rfl rfl rfl rfl ⟨rfl, rfl, rfl, rfl, rfl⟩ rfl rfl rfl rfl rfl (by kernel_rfl) Try.func5 (by kernel_rfl)
    (of_decide_eq_true (by kernel_rfl)) (by unfold Func.isWrapper; first | (rw [if_pos (by decide +kernel)]; kernel_rfl) | (rw [if_neg (by decide +kernel)]; exact ⟨rfl, rfl⟩))
    (fun os started H enc _ => lifted os started H enc)

/-- ████ THE STATEMENT ████ -/
theorem proved : Rows.FnStaffBranchSameIffSameTagSaid := over
#print axioms proved
end Go.Proofs.Qxb6601939a.fnStaffBranchSameIffSameTag
