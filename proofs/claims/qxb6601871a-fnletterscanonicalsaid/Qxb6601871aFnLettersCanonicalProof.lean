/-
  THE PROOF OF 'Rows.FnLettersCanonicalSaid': the walk of the law over the callees' contracts; the frame is the shell that proof-skeleton.mjs wrote for this function.
-/
import Derived.Test.Qxb6601871aRows
import Derived.Test.Qxb6601871aValue
import Derived.WalkKit
import Derived.ProofKit
import Derived.OpenShut
import Derived.ShutString
namespace Go.Proofs.Qxb6601871a.fnLettersCanonical
open Go.ChangeShapes Go.WideShapes Go.ChangeAt Go.RowKit
open Go.ChangeMaps (open_string shut_string)
open Pl Letters
set_option linter.unusedVariables false      -- a walk need not use every 'w<i>' (that an integer argument fits its kind)

theorem own : ownKnob Try.prog.godebug = none := by kernel_rfl

/-! ### STEP 1: THE WALK: the Go text returns true. 'Grown w w'': the world has at most new blocks (Derived/RowKit3.lean). Part the cases AHEAD of 'go_enter' where a test parts the walk; take each callee by a contract of your own. -/
theorem zz_s (n : Nat) (s : ByteArray) (hs : s = bstr (lets n)) (hn : n < 18446744073709551616) (w : World) :
    Calls Try.prog 6 #[.int .u64 n] w fun e w' => e = .returned (.string s) ∧ ∃ arr, w' = w.alloc (.cells arr 31) := by
  subst hs
  exact zz_any n hn w

theorem value_s (n : Nat) (s : ByteArray) (hs : s = bstr (lets n)) (hn : n < 18446744073709551616) (w : World) :
    Calls Try.prog 7 #[.string s] w fun e w' => e = .returned (.tuple #[.int .u64 (n : Int), .bool true]) ∧ w' = w := by
  subst hs
  have h := value_any (bstr (lets n)) (lets n) (bstr_size _) (bstr_at _ (lets_range n)) (lets_range n) (by rw [val_lets]; exact hn) (lets_len14 n hn) w
  rw [val_lets] at h
  exact h

theorem first_s (n : Nat) (s : ByteArray) (hs : s = bstr (lets n)) (h : 1 < s.size) : ((s[0].toNat : Int) == 97) = false := by
  subst hs
  have h1 : 1 < (lets n).length := by rw [bstr_size] at h; exact h
  have h2 := lets_head n h1
  rw [List.getElem?_eq_getElem (by omega)] at h2
  have h3 := bstr_at (lets n) (lets_range n) 0 (by omega) (by omega)
  rw [h3]
  simp at h2 ⊢
  omega

set_option maxHeartbeats 400000 in
theorem walk (a0 : Int) (w0 : (Lit.int .u64 a0).wf = true) (w : World) :
    Calls Try.prog 3 #[.int .u64 a0] w fun e w' => e = .returned (.bool true) ∧ Grown w w' := by
  obtain ⟨b0, b1⟩ := bounds_u64 w0
  obtain ⟨n, rfl⟩ : ∃ n : Nat, a0 = (n : Int) := ⟨a0.toNat, by omega⟩
  have hn : n < 18446744073709551616 := by omega
  obtain ⟨s, hs⟩ : ∃ s, s = bstr (lets n) := ⟨_, rfl⟩
  have h1 : 1 ≤ s.size := by have := lets_pos n; rw [hs, bstr_size]; exact this
  have h2 : s.size ≤ 14 := by have := lets_len14 n hn; rw [hs, bstr_size]; exact this
  have h3 := first_s n s hs
  have HS : Hid (s = bstr (lets n)) := hs
  clear hs
  by_cases hc : 1 < s.size
  · have h4 := h3 hc
    clear h3
    go_enter Try.func3, Try.ntmps3
    go_wp2_with (first | (go_at_call 6; refine (zz_s n s HS.out hn _).mono ?_; rintro e w' ⟨rfl, arr, rfl⟩) | (go_at_call 7; refine (value_s n s HS.out hn _).mono ?_; rintro e w' ⟨rfl, rfl⟩))
    go_ret
    exact ⟨rfl, (Grown.refl _).alloc _ _⟩
  · clear h3
    go_enter Try.func3, Try.ntmps3
    go_wp2_with (first | (go_at_call 6; refine (zz_s n s HS.out hn _).mono ?_; rintro e w' ⟨rfl, arr, rfl⟩) | (go_at_call 7; refine (value_s n s HS.out hn _).mono ?_; rintro e w' ⟨rfl, rfl⟩))
    go_ret
    exact ⟨rfl, (Grown.refl _).alloc _ _⟩

/-! ### THE ROW's STEP: WRITTEN OUT: LEAVE IT -/
set_option maxRecDepth 100000 in
theorem lifted (os : Os) (started : os.Started) (H : Type) (enc : TypeId × Value → H) :
    ReturnsInHanded {} Try.checked os 3 .any (Rows.fnLettersCanonicalSpec.pre6 enc Try.prog Try.f3 Rows.fnLettersCanonicalRow.domain false) (Rows.fnLettersCanonicalSpec.post enc Try.prog Try.f3 false true false false) := by
  refine returnsInHanded_of_change (C := Try.checked) own started (by kernel_rfl) Try.func3
    (ChangeSpec.witness6 (enc := enc) (C := Try.checked) false ⟨#[], #[.int .u64 0], []⟩ 8 (by kernel_rfl) (by kernel_rfl) (by kernel_rfl) (by kernel_rfl)) ?_
  intro W base args ds gs before hval0 hW hcnd _
  have hval : ∀ (j : Nat) t v, Try.f3.params[j]? = some t → args[j]? = some v → Value.okWide Try.prog W .any base t v := hval0
  have hW' := hW
  obtain ⟨p, q, hA0, hV, rfl, hfz, hnd⟩ := hW
  have hA : DataW.TrodAll enc Try.prog W 0 (fun _ => true) true Try.f3.params.toList args.toList ds p := hA0
  rw [Try.params3] at hA hval
  obtain ⟨v0, vs0, d0, ds0, p0, q0, hargs, rfl, rfl, h0, r0⟩ := trodAll_cons hA
  obtain ⟨rfl, rfl, rfl⟩ := trodAll_nil r0
  obtain rfl : args = #[v0] := by cases args; simp_all
  obtain ⟨rfl, rfl⟩ := trodVars_none hV
  obtain ⟨a0, rfl, rfl, rfl, w0⟩ := open_int Try.underlying22 (hval 0 22 v0 rfl rfl) h0
  clear hA0 hval0
  simp only [List.append_nil] at hW'
  refine (walk a0 w0 W).mono fun e W' ⟨he, hg⟩ => ?_
  subst he
  exact ⟨_, rfl, post_of_same (pa := []) (pv := []) hW' (fun _ _ _ => (trodAll_cons_mk (shut_bool Try.underlying4 _) trodAll_mk0)) (fun sp _ => (trodAll_cons_mk (shut_int Try.underlying22 w0) trodAll_mk0)) (fun _ _ => rfl) rfl
    (hg.frame _) hg.2.1 (ok_one (by kernel_rfl) rfl (okWide_bool_mk Try.underlying4 _))⟩

theorem over : Rows.fnLettersCanonicalRow.holds Try.pinned (OpenSpec.ofChange Rows.fnLettersCanonicalSpec) :=
  OpenClaim.holds_of_wide 3 Try.f3 rfl rfl rfl rfl rfl rfl rfl ⟨rfl, rfl, rfl, rfl, rfl⟩ rfl rfl rfl rfl rfl (by kernel_rfl) Try.func3 (by kernel_rfl)
    (of_decide_eq_true (by kernel_rfl)) (by unfold Func.isWrapper; first | (rw [if_pos (by decide +kernel)]; kernel_rfl) | (rw [if_neg (by decide +kernel)]; exact ⟨rfl, rfl⟩))
    (fun os started H enc _ => lifted os started H enc)

/-- ████ THE STATEMENT ████ -/
theorem proved : Rows.FnLettersCanonicalSaid :=
  over
#print axioms proved
end Go.Proofs.Qxb6601871a.fnLettersCanonical
