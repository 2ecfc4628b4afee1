/-
  THE PLAIN MATHEMATICS OF COUNTING UP BY ONE, THE ODOMETER's WAY.
-/
import Derived.Test.Qxb6601871aPlain
namespace Go.Proofs.Qxb6601871a.Pl

theorem rep_snoc (j c : Nat) : List.replicate (j + 1) c = List.replicate j c ++ [c] := List.replicate_succ'

theorem big_of {n : Nat} {q : List Nat} {c : Nat} (h : lets n = q ++ [c]) (hq : q ≠ []) : 26 ≤ n ∧ lets (n / 26) = q ∧ 97 + n % 26 = c := by
  by_cases hn : n < 26
  · rw [lets_small hn] at h
    have := congrArg List.length h
    simp at this
    exact absurd this hq
  · rw [lets_big (by omega)] at h
    have e := List.append_inj' h rfl
    exact ⟨by omega, e.1, by simpa using e.2⟩

theorem step_up {n : Nat} {r : List Nat} (hn : 26 ≤ n) (h25 : 97 + n % 26 = 122) (h : lets (n / 26 + 1) = r) : lets (n + 1) = r ++ [97] := by
  rw [lets_big (by omega), show (n + 1) / 26 = n / 26 + 1 by omega, show (n + 1) % 26 = 0 by omega, h]

/-- The last letter that is not 122 steps up, the 122's after it turn to 97. -/
theorem inc_stop : ∀ (j n : Nat) (p : List Nat) (c : Nat), lets n = p ++ c :: List.replicate j 122 → c < 122 → lets (n + 1) = p ++ (c + 1) :: List.replicate j 97
  | 0, n, p, c, h, hc => by
    by_cases hn : n < 26
    · rw [lets_small hn] at h
      have e := List.append_inj' (s₁ := []) (t₁ := [97 + n]) h rfl
      have e2 : 97 + n = c := by simpa using e.2
      rw [← e.1, lets_small (by omega), ← e2]
      simp
      omega
    · rw [lets_big (by omega)] at h
      have e := List.append_inj' h rfl
      have e2 : 97 + n % 26 = c := by simpa using e.2
      rw [lets_big (by omega), show (n + 1) / 26 = n / 26 by omega, e.1, ← e2]
      simp
      omega
  | j + 1, n, p, c, h, hc => by
    rw [rep_snoc, ← List.cons_append, ← List.append_assoc] at h
    obtain ⟨h1, h2, h3⟩ := big_of h (by simp)
    rw [step_up h1 h3 (inc_stop j (n / 26) p c h2 hc), rep_snoc]
    simp

/-- A numeral of 122's alone becomes 98 and as many 97's. -/
theorem inc_all : ∀ (j n : Nat), lets n = List.replicate (j + 1) 122 → lets (n + 1) = 98 :: List.replicate (j + 1) 97
  | 0, n, h => by
    have hn : n = 25 := by
      by_cases hn : n < 26
      · rw [lets_small hn] at h
        simp at h
        omega
      · rw [lets_big (by omega)] at h
        have := lets_pos (n / 26)
        have e := congrArg List.length h
        simp at e
        rw [e] at this
        simp at this
    subst hn
    rw [lets_big (x := 26) (by omega), lets_small (x := 26 / 26) (by omega)]
    rfl
  | j + 1, n, h => by
    rw [rep_snoc] at h
    obtain ⟨h1, h2, h3⟩ := big_of h (by simp)
    rw [step_up h1 h3 (inc_all j (n / 26) h2), rep_snoc (j + 1)]
    simp

theorem set_mid (A B : List Nat) (x c k : Nat) (h : k = A.length) : (A ++ x :: B).set k c = A ++ c :: B := by
  subst h
  rw [List.set_append_right _ _ (Nat.le_refl _)]
  simp

theorem take_at (L B : List Nat) (k : Nat) (h : k < L.length) : L.take (k + 1) ++ B = L.take k ++ L[k] :: B := by
  rw [List.take_succ_eq_append_getElem h, List.append_assoc]
  rfl

theorem rep_pos (a b z : Nat) (h : b < a) : List.replicate (a - b) z = z :: List.replicate (a - (b + 1)) z := by
  rw [show a - b = (a - (b + 1)) + 1 by omega, List.replicate_succ]

/-- The first loop: the text is copied into a row of zeros. -/
theorem st_copy (L l : List Nat) (N k : Nat) (hN : N = L.length) (hk : k < N) (hl : l = L.take k ++ List.replicate (N - k) 0) :
    k < l.length ∧ ∀ h : k < L.length, l.set k L[k] = L.take (k + 1) ++ List.replicate (N - (k + 1)) 0 := by
  subst hl
  refine ⟨by simp; omega, fun h => ?_⟩
  rw [rep_pos N k 0 hk, set_mid _ _ _ _ _ (by simp; omega), take_at _ _ _ h]

theorem st_full (L l : List Nat) (N k : Nat) (hN : N = L.length) (hk : ¬ k < N) (hl : l = L.take k ++ List.replicate (N - k) 0) : l = L := by
  rw [hl, List.take_of_length_le (by omega), show N - k = 0 by omega]
  simp

/-- The second loop: from the m-th letter on all were 122 and are 97. -/
def P2 (L : List Nat) (N m : Nat) (l : List Nat) : Prop := l = L.take m ++ List.replicate (N - m) 97 ∧ L.drop m = List.replicate (N - m) 122

theorem st2_start (L : List Nat) (N : Nat) (hN : N = L.length) : P2 L N N L := by
  subst hN
  simp [P2]

theorem st2_at {L : List Nat} {N i : Nat} {l : List Nat} (h : P2 L N (i + 1) l) (hN : N = L.length) (hi : i + 1 ≤ N) : ∃ (h1 : i < l.length) (h2 : i < L.length), l[i] = L[i] := by
  have h2 : i < L.length := by omega
  have h1 : i < l.length := by rw [h.1]; simp; omega
  refine ⟨h1, h2, ?_⟩
  have e : l[i]? = some L[i] := by
    rw [h.1, List.getElem?_append_left (by simp; omega)]
    simp [h2]
  rw [List.getElem?_eq_getElem h1] at e
  exact Option.some.inj e

theorem st2_set {L : List Nat} {N i : Nat} {l : List Nat} (h : P2 L N (i + 1) l) (hN : N = L.length) (hi : i + 1 ≤ N) (c : Nat) : l.set i c = L.take i ++ c :: List.replicate (N - (i + 1)) 97 := by
  have h2 : i < L.length := by omega
  rw [h.1, take_at _ _ _ h2, set_mid _ _ _ _ _ (by simp; omega)]

theorem st2_z {L : List Nat} {N i : Nat} {l : List Nat} (h : P2 L N (i + 1) l) (hN : N = L.length) (hi : i + 1 ≤ N) (h2 : i < L.length) (hz : L[i] = 122) : P2 L N i (l.set i 97) := by
  refine ⟨?_, ?_⟩
  · rw [st2_set h hN hi, rep_pos N i 97 (by omega)]
  · rw [List.drop_eq_getElem_cons h2, hz, h.2, rep_pos N i 122 (by omega)]

theorem st2_stop {n N i : Nat} {l : List Nat} (h : P2 (lets n) N (i + 1) l) (hN : N = (lets n).length) (hi : i + 1 ≤ N) (h2 : i < (lets n).length) (hz : (lets n)[i] < 122) : l.set i ((lets n)[i] + 1) = lets (n + 1) := by
  rw [st2_set h hN hi]
  refine (inc_stop _ n _ _ ?_ hz).symm
  conv => lhs; rw [← List.take_append_drop i (lets n), List.drop_eq_getElem_cons h2, h.2]

theorem st2_all {n N : Nat} {l : List Nat} (h : P2 (lets n) N 0 l) (hN : 1 ≤ N) : l = List.replicate N 97 ∧ lets (n + 1) = 98 :: List.replicate N 97 := by
  obtain ⟨h1, h2⟩ := h
  refine ⟨by simpa using h1, ?_⟩
  have e : lets n = List.replicate (N - 1 + 1) 122 := by
    rw [show N - 1 + 1 = N by omega]
    simpa using h2
  have := inc_all (N - 1) n e
  rwa [show N - 1 + 1 = N by omega] at this

/-- The third loop: 98, then the row of 97's copied behind it. -/
def P3 (N m : Nat) : List Nat := 98 :: (List.replicate m 97 ++ List.replicate (N - m) 0)

theorem P3_len (N m : Nat) (h : m ≤ N) : (P3 N m).length = N + 1 := by simp [P3]; omega

theorem P3_set (N m : Nat) (h : m < N) : (P3 N m).set (m + 1) 97 = P3 N (m + 1) := by
  unfold P3
  rw [List.set_cons_succ, rep_pos N m 0 h, set_mid _ _ _ _ _ (by simp), rep_snoc, List.append_assoc]
  rfl

theorem P3_start (N : Nat) : (List.replicate (N + 1) 0).set 0 98 = P3 N 0 := by
  simp [P3, List.replicate_succ]

theorem P3_full (N m : Nat) (h : m ≤ N) (h' : ¬ m < N) : P3 N m = 98 :: List.replicate N 97 := by
  have : m = N := by omega
  subst this
  simp [P3]

end Go.Proofs.Qxb6601871a.Pl
