/-
  THE PROOF OF 'Rows.FnLettersShortlexSaid': the walk of the law over the callees' contracts; the frame is the shell that proof-skeleton.mjs wrote for this function.
-/
import Derived.Test.Qxb6601871aRows
import Derived.Test.Qxb6601871aCmp
import Derived.WalkKit
import Derived.ProofKit
import Derived.OpenShut
import Derived.ShutString
namespace Go.Proofs.Qxb6601871a.fnLettersShortlex
open Go.ChangeShapes Go.WideShapes Go.ChangeAt Go.RowKit
open Go.ChangeMaps (open_string shut_string)
open Pl Letters
set_option linter.unusedVariables false      -- a walk need not use every 'w<i>' (that an integer argument fits its kind)

theorem own : ownKnob Try.prog.godebug = none := by kernel_rfl

/-! ### STEP 1: THE WALK: the Go text returns true. 'Grown w w'': the world has at most new blocks (Derived/RowKit3.lean). Part the cases AHEAD of 'go_enter' where a test parts the walk; take each callee by a contract of your own. -/
theorem zz_s (n : Nat) (s : ByteArray) (hs : s = bstr (lets n)) (hn : n < 18446744073709551616) (w : World) :
    Calls Try.prog 6 #[.int .u64 n] w fun e w' => e = .returned (.string s) ∧ ∃ arr, w' = w.alloc (.cells arr 31) := by
  subst hs
  exact zz_any n hn w

theorem cmp_s (a b : Nat) (s t : ByteArray) (hs : s = bstr (lets a)) (ht : t = bstr (lets b)) (ha : a < 18446744073709551616) (hb : b < 18446744073709551616) (w : World) :
    Calls Try.prog 8 #[.string s, .string t] w fun e w' => e = .returned (.int .i64 (if a < b then -1 else if b < a then 1 else 0)) ∧ ∃ q, w' = w.drewN q := by
  subst hs
  subst ht
  have h := cmp_any (bstr (lets a)) (bstr (lets b)) (lets a) (lets b) (bstr_size _) (bstr_size _) (bstr_at _ (lets_range a)) (bstr_at _ (lets_range b)) (lets_len14 a ha) (lets_len14 b hb) w
  rw [scmp_lets] at h
  exact h

theorem cmp_lt (a b : Nat) (s t : ByteArray) (hs : s = bstr (lets a)) (ht : t = bstr (lets b)) (ha : a < 18446744073709551616) (hb : b < 18446744073709551616) (h : a < b) (w : World) :
    Calls Try.prog 8 #[.string s, .string t] w fun e w' => e = .returned (.int .i64 (-1)) ∧ ∃ q, w' = w.drewN q := by
  have k := cmp_s a b s t hs ht ha hb w
  rw [if_pos h] at k
  exact k

theorem cmp_gt (a b : Nat) (s t : ByteArray) (hs : s = bstr (lets a)) (ht : t = bstr (lets b)) (ha : a < 18446744073709551616) (hb : b < 18446744073709551616) (h : b < a) (w : World) :
    Calls Try.prog 8 #[.string s, .string t] w fun e w' => e = .returned (.int .i64 1) ∧ ∃ q, w' = w.drewN q := by
  have k := cmp_s a b s t hs ht ha hb w
  rw [if_neg (by omega), if_pos h] at k
  exact k

theorem cmp_eq (a b : Nat) (s t : ByteArray) (hs : s = bstr (lets a)) (ht : t = bstr (lets b)) (ha : a < 18446744073709551616) (hb : b < 18446744073709551616) (h : ¬ a < b) (h' : ¬ b < a) (w : World) :
    Calls Try.prog 8 #[.string s, .string t] w fun e w' => e = .returned (.int .i64 0) ∧ ∃ q, w' = w.drewN q := by
  have k := cmp_s a b s t hs ht ha hb w
  rw [if_neg h, if_neg h'] at k
  exact k

theorem grown_drewN {W w : World} (h : Grown W w) (q : Nat) : Grown W (w.drewN q) := by
  induction q with
  | zero => exact h
  | succ q ih => exact ih.drew

set_option maxHeartbeats 400000 in
theorem walk (a0 : Int) (a1 : Int) (w0 : (Lit.int .u64 a0).wf = true) (w1 : (Lit.int .u64 a1).wf = true) (w : World) :
    Calls Try.prog 4 #[.int .u64 a0, .int .u64 a1] w fun e w' => e = .returned (.bool true) ∧ Grown w w' := by
  obtain ⟨b0, b1⟩ := bounds_u64 w0
  obtain ⟨c0, c1⟩ := bounds_u64 w1
  obtain ⟨a, rfl⟩ : ∃ n : Nat, a0 = (n : Int) := ⟨a0.toNat, by omega⟩
  obtain ⟨b, rfl⟩ : ∃ n : Nat, a1 = (n : Int) := ⟨a1.toNat, by omega⟩
  have ha : a < 18446744073709551616 := by omega
  have hb : b < 18446744073709551616 := by omega
  obtain ⟨s, hs⟩ : ∃ s, s = bstr (lets a) := ⟨_, rfl⟩
  obtain ⟨t, ht⟩ : ∃ s, s = bstr (lets b) := ⟨_, rfl⟩
  have HS : Hid (s = bstr (lets a)) := hs
  have HT : Hid (t = bstr (lets b)) := ht
  clear hs ht w0 w1 b0 b1 c0 c1
  by_cases h : a < b
  · have hi : (a : Int) < (b : Int) := by omega
    go_enter Try.func4, Try.ntmps4
    go_wp2_with fail
    refine (zz_s a s HS.out ha _).mono ?_
    rintro e w' ⟨rfl, arr, rfl⟩
    go_wp2_with fail
    refine (zz_s b t HT.out hb _).mono ?_
    rintro e w' ⟨rfl, arr2, rfl⟩
    go_wp2_with fail
    refine (cmp_lt a b s t HS.out HT.out ha hb h _).mono ?_
    rintro e w' ⟨rfl, q, rfl⟩
    go_wp2_with fail
    go_ret
    exact ⟨rfl, grown_drewN (((Grown.refl _).alloc _ _).alloc _ _) _⟩
  · by_cases h' : b < a
    · have hi : ¬ (a : Int) < (b : Int) := by omega
      have hi' : (b : Int) < (a : Int) := by omega
      go_enter Try.func4, Try.ntmps4
      go_wp2_with fail
      refine (zz_s a s HS.out ha _).mono ?_
      rintro e w' ⟨rfl, arr, rfl⟩
      go_wp2_with fail
      refine (zz_s b t HT.out hb _).mono ?_
      rintro e w' ⟨rfl, arr2, rfl⟩
      go_wp2_with fail
      refine (cmp_gt a b s t HS.out HT.out ha hb h' _).mono ?_
      rintro e w' ⟨rfl, q, rfl⟩
      go_wp2_with fail
      go_ret
      exact ⟨rfl, grown_drewN (((Grown.refl _).alloc _ _).alloc _ _) _⟩
    · have hi : ¬ (a : Int) < (b : Int) := by omega
      have hi' : ¬ (b : Int) < (a : Int) := by omega
      go_enter Try.func4, Try.ntmps4
      go_wp2_with fail
      refine (zz_s a s HS.out ha _).mono ?_
      rintro e w' ⟨rfl, arr, rfl⟩
      go_wp2_with fail
      refine (zz_s b t HT.out hb _).mono ?_
      rintro e w' ⟨rfl, arr2, rfl⟩
      go_wp2_with fail
      refine (cmp_eq a b s t HS.out HT.out ha hb h h' _).mono ?_
      rintro e w' ⟨rfl, q, rfl⟩
      go_wp2_with fail
      go_ret
      exact ⟨rfl, grown_drewN (((Grown.refl _).alloc _ _).alloc _ _) _⟩

/-! ### THE ROW's STEP: WRITTEN OUT: LEAVE IT -/
set_option maxRecDepth 100000 in
theorem lifted (os : Os) (started : os.Started) (H : Type) (enc : TypeId × Value → H) :
    ReturnsInHanded {} Try.checked os 4 .any (Rows.fnLettersShortlexSpec.pre6 enc Try.prog Try.f4 Rows.fnLettersShortlexRow.domain false) (Rows.fnLettersShortlexSpec.post enc Try.prog Try.f4 false true false false) := by
  refine returnsInHanded_of_change (C := Try.checked) own started (by kernel_rfl) Try.func4
    (ChangeSpec.witness6 (enc := enc) (C := Try.checked) false ⟨#[], #[.int .u64 0, .int .u64 0], []⟩ 8 (by kernel_rfl) (by kernel_rfl) (by kernel_rfl) (by kernel_rfl)) ?_
  intro W base args ds gs before hval0 hW hcnd _
  have hval : ∀ (j : Nat) t v, Try.f4.params[j]? = some t → args[j]? = some v → Value.okWide Try.prog W .any base t v := hval0
  have hW' := hW
  obtain ⟨p, q, hA0, hV, rfl, hfz, hnd⟩ := hW
  have hA : DataW.TrodAll enc Try.prog W 0 (fun _ => true) true Try.f4.params.toList args.toList ds p := hA0
  rw [Try.params4] at hA hval
  obtain ⟨v0, vs0, d0, ds0, p0, q0, hargs, rfl, rfl, h0, r0⟩ := trodAll_cons hA
  obtain ⟨v1, vs1, d1, ds1, p1, q1, rfl, rfl, rfl, h1, r1⟩ := trodAll_cons r0
  obtain ⟨rfl, rfl, rfl⟩ := trodAll_nil r1
  obtain rfl : args = #[v0, v1] := by cases args; simp_all
  obtain ⟨rfl, rfl⟩ := trodVars_none hV
  obtain ⟨a0, rfl, rfl, rfl, w0⟩ := open_int Try.underlying22 (hval 0 22 v0 rfl rfl) h0
  obtain ⟨a1, rfl, rfl, rfl, w1⟩ := open_int Try.underlying22 (hval 1 22 v1 rfl rfl) h1
  clear hA0 hval0
  simp only [List.append_nil] at hW'
  refine (walk a0 a1 w0 w1 W).mono fun e W' ⟨he, hg⟩ => ?_
  subst he
  exact ⟨_, rfl, post_of_same (pa := []) (pv := []) hW' (fun _ _ _ => (trodAll_cons_mk (shut_bool Try.underlying4 _) trodAll_mk0)) (fun sp _ => (trodAll_cons_mk (shut_int Try.underlying22 w0) (trodAll_cons_mk (shut_int Try.underlying22 w1) trodAll_mk0))) (fun _ _ => rfl) rfl
    (hg.frame _) hg.2.1 (ok_one (by kernel_rfl) rfl (okWide_bool_mk Try.underlying4 _))⟩

theorem over : Rows.fnLettersShortlexRow.holds Try.pinned (OpenSpec.ofChange Rows.fnLettersShortlexSpec) :=
  OpenClaim.holds_of_wide 4 Try.f4 rfl rfl rfl rfl rfl rfl rfl ⟨rfl, rfl, rfl, rfl, rfl⟩ rfl rfl rfl rfl rfl (by kernel_rfl) Try.func4 (by kernel_rfl)
    (of_decide_eq_true (by kernel_rfl)) (by unfold Func.isWrapper; first | (rw [if_pos (by decide +kernel)]; kernel_rfl) | (rw [if_neg (by decide +kernel)]; exact ⟨rfl, rfl⟩))
    (fun os started H enc _ => lifted os started H enc)

/-- ████ THE STATEMENT ████ -/
theorem proved : Rows.FnLettersShortlexSaid :=
  over
#print axioms proved
end Go.Proofs.Qxb6601871a.fnLettersShortlex
