/-
  THE PROOF OF 'Rows.FnLettersSuccessorSaid': the walk of the law over the callees' contracts; the frame is the shell that proof-skeleton.mjs wrote for this function.
-/
import Derived.Test.Qxb6601871aRows
import Derived.Test.Qxb6601871aInc
import Derived.WalkKit
import Derived.ProofKit
import Derived.OpenShut
import Derived.ShutString
namespace Go.Proofs.Qxb6601871a.fnLettersSuccessor
open Go.ChangeShapes Go.WideShapes Go.ChangeAt Go.RowKit
open Go.ChangeMaps (open_string shut_string)
open Pl Letters
set_option linter.unusedVariables false      -- a walk need not use every 'w<i>' (that an integer argument fits its kind)

theorem own : ownKnob Try.prog.godebug = none := by kernel_rfl

/-! ### STEP 1: THE WALK: the Go text returns true. 'Grown w w'': the world has at most new blocks (Derived/RowKit3.lean). Part the cases AHEAD of 'go_enter' where a test parts the walk; take each callee by a contract of your own. -/
theorem zz_s (n : Nat) (s : ByteArray) (hs : s = bstr (lets n)) (hn : n < 18446744073709551616) (w : World) :
    Calls Try.prog 6 #[.int .u64 n] w fun e w' => e = .returned (.string s) ∧ ∃ arr, w' = w.alloc (.cells arr 31) := by
  subst hs
  exact zz_any n hn w

theorem zz_s1 (n : Nat) (s : ByteArray) (hs : s = bstr (lets (n + 1))) (hn : n + 1 < 18446744073709551616) (w : World) :
    Calls Try.prog 6 #[.int .u64 ((n : Int) + 1)] w fun e w' => e = .returned (.string s) ∧ ∃ arr, w' = w.alloc (.cells arr 31) := by
  subst hs
  exact zz_any (n + 1) hn w

theorem inc_s (n : Nat) (s t : ByteArray) (hs : s = bstr (lets n)) (ht : t = bstr (lets (n + 1))) (hn : n < 18446744073709551616) (w : World) :
    Calls Try.prog 9 #[.string s] w fun e w' => e = .returned (.string t) ∧ Grown w w' := by
  subst hs
  subst ht
  exact inc_any n (bstr (lets n)) (bstr_size _) (bstr_at _ (lets_range n)) (by rw [bstr_size]; exact lets_len14 n hn) w

theorem grown_trans {a b c : World} (h : Grown a b) (k : Grown b c) : Grown a c :=
  ⟨World.keptBut_trans h.1 k.1, fun x => (k.2.1 x).trans (h.2.1 x), Nat.le_trans h.2.2 k.2.2⟩

set_option maxHeartbeats 400000 in
theorem walk (a0 : Int) (w0 : (Lit.int .u64 a0).wf = true) (w : World) :
    Calls Try.prog 5 #[.int .u64 a0] w fun e w' => e = .returned (.bool true) ∧ Grown w w' := by
  obtain ⟨b0, b1⟩ := bounds_u64 w0
  obtain ⟨n, rfl⟩ : ∃ n : Nat, a0 = (n : Int) := ⟨a0.toNat, by omega⟩
  clear w0
  by_cases h : (n : Int) = 18446744073709551615
  · have hb : ((n : Int) == 18446744073709551615) = true := by simp; omega
    clear h
    go_enter Try.func5, Try.ntmps5
    go_wp2_with fail
    go_ret
    exact ⟨rfl, Grown.refl _⟩
  · have hb : ((n : Int) == 18446744073709551615) = false := by simp; omega
    have hn : n + 1 < 18446744073709551616 := by omega
    obtain ⟨s, hs⟩ : ∃ s, s = bstr (lets n) := ⟨_, rfl⟩
    obtain ⟨t, ht⟩ : ∃ s, s = bstr (lets (n + 1)) := ⟨_, rfl⟩
    have HS : Hid (s = bstr (lets n)) := hs
    have HT : Hid (t = bstr (lets (n + 1))) := ht
    clear hs ht h
    go_enter Try.func5, Try.ntmps5
    go_wp2_with fail
    refine (zz_s1 n t HT.out hn _).mono ?_
    rintro e w' ⟨rfl, arr, rfl⟩
    go_wp2_with fail
    refine (zz_s n s HS.out (by omega) _).mono ?_
    rintro e w' ⟨rfl, arr2, rfl⟩
    go_wp2_with fail
    refine (inc_s n s t HS.out HT.out (by omega) _).mono ?_
    rintro e w' ⟨rfl, hg⟩
    go_wp2_with fail
    go_ret
    exact ⟨rfl, grown_trans (((Grown.refl _).alloc _ _).alloc _ _) hg⟩

/-! ### THE ROW's STEP: WRITTEN OUT: LEAVE IT -/
set_option maxRecDepth 100000 in
theorem lifted (os : Os) (started : os.Started) (H : Type) (enc : TypeId × Value → H) :
    ReturnsInHanded {} Try.checked os 5 .any (Rows.fnLettersSuccessorSpec.pre6 enc Try.prog Try.f5 Rows.fnLettersSuccessorRow.domain false) (Rows.fnLettersSuccessorSpec.post enc Try.prog Try.f5 false true false false) := by
  refine returnsInHanded_of_change (C := Try.checked) own started (by kernel_rfl) Try.func5
    (ChangeSpec.witness6 (enc := enc) (C := Try.checked) false ⟨#[], #[.int .u64 0], []⟩ 8 (by kernel_rfl) (by kernel_rfl) (by kernel_rfl) (by kernel_rfl)) ?_
  intro W base args ds gs before hval0 hW hcnd _
  have hval : ∀ (j : Nat) t v, Try.f5.params[j]? = some t → args[j]? = some v → Value.okWide Try.prog W .any base t v := hval0
  have hW' := hW
  obtain ⟨p, q, hA0, hV, rfl, hfz, hnd⟩ := hW
  have hA : DataW.TrodAll enc Try.prog W 0 (fun _ => true) true Try.f5.params.toList args.toList ds p := hA0
  rw [Try.params5] at hA hval
  obtain ⟨v0, vs0, d0, ds0, p0, q0, hargs, rfl, rfl, h0, r0⟩ := trodAll_cons hA
  obtain ⟨rfl, rfl, rfl⟩ := trodAll_nil r0
  obtain rfl : args = #[v0] := by cases args; simp_all
  obtain ⟨rfl, rfl⟩ := trodVars_none hV
  obtain ⟨a0, rfl, rfl, rfl, w0⟩ := open_int Try.underlying22 (hval 0 22 v0 rfl rfl) h0
  clear hA0 hval0
  simp only [List.append_nil] at hW'
  refine (walk a0 w0 W).mono fun e W' ⟨he, hg⟩ => ?_
  subst he
  exact ⟨_, rfl, post_of_same (pa := []) (pv := []) hW' (fun _ _ _ => (trodAll_cons_mk (shut_bool Try.underlying4 _) trodAll_mk0)) (fun sp _ => (trodAll_cons_mk (shut_int Try.underlying22 w0) trodAll_mk0)) (fun _ _ => rfl) rfl
    (hg.frame _) hg.2.1 (ok_one (by kernel_rfl) rfl (okWide_bool_mk Try.underlying4 _))⟩

theorem over : Rows.fnLettersSuccessorRow.holds Try.pinned (OpenSpec.ofChange Rows.fnLettersSuccessorSpec) :=
  OpenClaim.holds_of_wide 5 Try.f5 rfl rfl rfl rfl rfl rfl rfl ⟨rfl, rfl, rfl, rfl, rfl⟩ rfl rfl rfl rfl rfl (by kernel_rfl) Try.func5 (by kernel_rfl)
    (of_decide_eq_true (by kernel_rfl)) (by unfold Func.isWrapper; first | (rw [if_pos (by decide +kernel)]; kernel_rfl) | (rw [if_neg (by decide +kernel)]; exact ⟨rfl, rfl⟩))
    (fun os started H enc _ => lifted os started H enc)

/-- ████ THE STATEMENT ████ -/
theorem proved : Rows.FnLettersSuccessorSaid :=
  over
#print axioms proved
end Go.Proofs.Qxb6601871a.fnLettersSuccessor
