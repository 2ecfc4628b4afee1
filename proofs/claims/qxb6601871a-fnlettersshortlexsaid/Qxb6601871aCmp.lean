/-
  THE WALK OF 'shortlexCompare' (8).
-/
import Derived.Test.Qxb6601871aLetters
import Derived.Test.Qxb6601871aPlainCmp
import Derived.Deep.QuietTactic
import Derived.BigQuiet
namespace Go.Proofs.Qxb6601871a.Letters
open Go.RowKit Pl

theorem ret_i64 {a b : Int} (h : a = b) : Ending.returned (.int .i64 a) = .returned (.int .i64 b) := by rw [h]

theorem draws_add (w : World) (a b c : Nat) : ∃ q, ((w.drewN a).drewN b).drewN c = w.drewN q := ⟨a + b + c, by simp⟩

set_option maxHeartbeats 400000 in
theorem cmp_any (x y : ByteArray) (l r : List Nat) (hl : x.size = l.length) (hr : y.size = r.length)
    (hx : ∀ k (h : k < x.size) (h' : k < l.length), x[k].toNat = l[k]) (hy : ∀ k (h : k < y.size) (h' : k < r.length), y[k].toNat = r[k])
    (hm : l.length ≤ 14) (hn : r.length ≤ 14) (w : World) :
    Calls Try.prog 8 #[.string x, .string y] w fun e w' => e = .returned (.int .i64 (scmp l r)) ∧ ∃ q, w' = w.drewN q := by
  have m1 : x.size ≤ 14 := by omega
  have m2 : y.size ≤ 14 := by omega
  by_cases h0 : x.size = y.size
  · have hb : ((x.size : Int) != (y.size : Int)) = false := by simp [h0]
    have HS : Hid (scmp l r = cmpL l r) := by
      show _ = _
      unfold scmp
      rw [if_pos (by omega)]
    have HX : Hid (∀ k (h : k < x.size) (h' : k < l.length), x[k].toNat = l[k]) := hx
    have HY : Hid (∀ k (h : k < y.size) (h' : k < r.length), y[k].toNat = r[k]) := hy
    have HL : Hid (x.size = l.length) := hl
    have HR : Hid (y.size = r.length) := hr
    have H0 : Hid (x.size = y.size) := h0
    clear hx hy hl hr h0
    go_enter Try.func8, Try.ntmps8
    go_wp2
    go_loopw [5] (fun i wr => ∃ k q : Nat, k ≤ x.size ∧ i = .int .i64 (k : Int) ∧ cmpL l r = cmpL (l.drop k) (r.drop k) ∧ wr = w.drewN q) (fun i _ => x.size - (intOf i).toNat)
    case atStart => exact ⟨0, 0, Nat.zero_le _, rfl, rfl, rfl⟩
    case round =>
      obtain ⟨k, q, hk, rfl, hinv, rfl⟩ := hrel
      have HI : Hid (cmpL l r = cmpL (l.drop k) (r.drop k)) := hinv
      clear hinv
      by_cases hlt : k < x.size
      · have hlt2 : k < y.size := by have := H0.out; omega
        have g1 : (k : Int) < (x.size : Int) := by omega
        have g2 : (k : Int) < (y.size : Int) := by omega
        go_wp2_with fail
        go_quiet (fail)
        have hkl : k < l.length := by have := HL.out; omega
        have hkr : k < r.length := by have := HR.out; omega
        have HC : Hid (cmpL l r = if (x[k].toNat : Int) = (y[k].toNat : Int) then cmpL (l.drop (k + 1)) (r.drop (k + 1)) else if (x[k].toNat : Int) < (y[k].toNat : Int) then -1 else 1) := by
          have e := cmpL_drop l r k hkl hkr
          rw [← HX.out k hlt hkl, ← HY.out k hlt2 hkr, ← HI.out] at e
          show _ = _
          rw [e]
          simp only [Int.natCast_inj, Int.ofNat_lt]
        clear hkl hkr
        go_wp2_with fail
        · have hq : (x[k].toNat : Int) ≠ (y[k].toNat : Int) := by
            have : ((x[k].toNat : Int) != (y[k].toNat : Int)) = true := by assumption
            simpa using this
          have HQ : Hid ((x[k].toNat : Int) ≠ (y[k].toNat : Int)) := hq
          clear hq
          go_quiet (fail)
          by_cases h2 : (x[k].toNat : Int) < (y[k].toNat : Int)
          · go_wp2
            go_ret
            exact ⟨ret_i64 (by rw [HS.out, HC.out, if_neg HQ.out, if_pos h2]), draws_add _ _ _ _⟩
          · go_wp2
            go_ret
            exact ⟨ret_i64 (by rw [HS.out, HC.out, if_neg HQ.out, if_neg (by omega)]), _, rfl⟩
        · have hq : (x[k].toNat : Int) = (y[k].toNat : Int) := by
            have : ((x[k].toNat : Int) != (y[k].toNat : Int)) = false := by assumption
            simpa using this
          go_roundw
          case rel => exact ⟨k + 1, _, by omega, by go_num, by rw [HC.out, if_pos hq], rfl⟩
          case measure => simp [intOf]; omega
      · have HE : Hid (cmpL l r = 0) := by
          have e := HI.out
          rw [List.drop_of_length_le (by have := HL.out; omega)] at e
          show _ = _
          rw [e]
          rfl
        go_wp2
        go_ret
        exact ⟨ret_i64 (by rw [HS.out, HE.out]), _, rfl⟩
  · have hb : ((x.size : Int) != (y.size : Int)) = true := by simp; omega
    have HL : Hid (x.size = l.length) := hl
    have HR : Hid (y.size = r.length) := hr
    clear hx hy hl hr
    by_cases h1 : x.size < y.size
    · have HS : Hid (scmp l r = -1) := by
        have := HL.out
        have := HR.out
        show _ = _
        unfold scmp
        rw [if_neg (by omega), if_pos (by omega)]
      clear h0
      go_enter Try.func8, Try.ntmps8
      go_wp2
      go_ret
      exact ⟨ret_i64 HS.out.symm, 0, rfl⟩
    · have HS : Hid (scmp l r = 1) := by
        have := HL.out
        have := HR.out
        show _ = _
        unfold scmp
        rw [if_neg (by omega), if_neg (by omega)]
      clear h0
      go_enter Try.func8, Try.ntmps8
      go_wp2
      go_ret
      exact ⟨ret_i64 HS.out.symm, 0, rfl⟩

end Go.Proofs.Qxb6601871a.Letters
