/-
  THE PLAIN MATHEMATICS OF 'letters': numerals in base 26 over 97 .. 122 as lists of numbers. No Go in sight.
-/
import Derived.KernelRfl
namespace Go.Proofs.Qxb6601871a.Pl

def letsF : Nat → Nat → List Nat
  | 0, _ => []
  | f + 1, x => if x < 26 then [97 + x] else letsF f (x / 26) ++ [97 + x % 26]

theorem letsF_fuel : ∀ (f g x : Nat), x < f → x < g → letsF f x = letsF g x
  | 0, _, _, h, _ => by omega
  | _, 0, _, _, h => by omega
  | f + 1, g + 1, x, hf, hg => by
    unfold letsF
    by_cases h : x < 26
    · rw [if_pos h, if_pos h]
    · rw [if_neg h, if_neg h, letsF_fuel f g (x / 26) (by omega) (by omega)]

/-- The numeral of x. -/
def lets (x : Nat) : List Nat := letsF (x + 1) x

theorem lets_small {x : Nat} (h : x < 26) : lets x = [97 + x] := by
  unfold lets letsF
  rw [if_pos h]

theorem lets_big {x : Nat} (h : 26 ≤ x) : lets x = lets (x / 26) ++ [97 + x % 26] := by
  show letsF (x + 1) x = _
  unfold letsF
  rw [if_neg (by omega), letsF_fuel x (x / 26 + 1) (x / 26) (by omega) (by omega)]
  rfl

theorem lets_ind {p : Nat → Prop} (small : ∀ x, x < 26 → p x) (big : ∀ x, 26 ≤ x → p (x / 26) → p x) (x : Nat) : p x := by
  induction x using Nat.strongRecOn with
  | ind x ih =>
    by_cases h : x < 26
    · exact small x h
    · exact big x (by omega) (ih (x / 26) (by omega))

/-- Horner's rule. -/
def val (l : List Nat) : Nat := l.foldl (fun v c => v * 26 + (c - 97)) 0

theorem val_snoc (l : List Nat) (c : Nat) : val (l ++ [c]) = val l * 26 + (c - 97) := by
  unfold val
  rw [List.foldl_append]
  rfl

theorem val_lets (x : Nat) : val (lets x) = x := by
  refine lets_ind (p := fun x => val (lets x) = x) (fun x h => ?_) (fun x h ih => ?_) x
  · rw [lets_small h]
    simp [val]
  · rw [lets_big h, val_snoc, ih]
    omega

theorem foldl_ge : ∀ (r : List Nat) (v : Nat), v ≤ r.foldl (fun v c => v * 26 + (c - 97)) v
  | [], v => Nat.le_refl _
  | c :: r, v => by
    have h := foldl_ge r (v * 26 + (c - 97))
    simp only [List.foldl_cons]
    omega

theorem val_append_ge (l r : List Nat) : val l ≤ val (l ++ r) := by
  unfold val
  rw [List.foldl_append]
  exact foldl_ge r _

theorem val_take_le (l : List Nat) (k : Nat) : val (l.take k) ≤ val l := by
  have h := val_append_ge (l.take k) (l.drop k)
  rwa [List.take_append_drop] at h

theorem val_take_succ (l : List Nat) (k : Nat) (h : k < l.length) : val (l.take (k + 1)) = val (l.take k) * 26 + (l[k] - 97) := by
  rw [List.take_succ_eq_append_getElem h, val_snoc]

theorem lets_range (x : Nat) : ∀ c ∈ lets x, 97 ≤ c ∧ c ≤ 122 := by
  refine lets_ind (p := fun x => ∀ c ∈ lets x, 97 ≤ c ∧ c ≤ 122) (fun x h => ?_) (fun x h ih => ?_) x
  · rw [lets_small h]
    intro c hc
    simp at hc
    omega
  · rw [lets_big h]
    intro c hc
    rw [List.mem_append] at hc
    rcases hc with hc | hc
    · exact ih c hc
    · simp at hc
      omega

theorem lets_pos (x : Nat) : 1 ≤ (lets x).length := by
  by_cases h : x < 26
  · rw [lets_small h]; simp
  · rw [lets_big (by omega)]; simp

theorem lets_len : ∀ (m x : Nat), x < 26 ^ (m + 1) → (lets x).length ≤ m + 1
  | 0, x, h => by
    rw [lets_small (by simpa using h)]
    simp
  | m + 1, x, h => by
    by_cases hx : x < 26
    · rw [lets_small hx]; simp
    · rw [lets_big (by omega), List.length_append]
      have := lets_len m (x / 26) (by rw [Nat.div_lt_iff_lt_mul (by omega)]; rw [Nat.pow_succ] at h; exact h)
      simp
      omega

theorem lets_len14 (x : Nat) (h : x < 18446744073709551616) : (lets x).length ≤ 14 :=
  lets_len 13 x (Nat.lt_trans h (by decide))

/-- No leading 97 but in the one-letter numeral. -/
theorem lets_head (x : Nat) : 1 < (lets x).length → (lets x)[0]? ≠ some 97 := by
  have key : 1 ≤ x → (lets x)[0]? ≠ some 97 := by
    refine lets_ind (p := fun x => 1 ≤ x → (lets x)[0]? ≠ some 97) (fun x h => ?_) (fun x h ih => ?_) x
    · intro h1
      rw [lets_small h]
      simp
      omega
    · intro _
      rw [lets_big h]
      have hp := lets_pos (x / 26)
      rw [List.getElem?_append_left (by omega)]
      exact ih (by omega)
  intro hl
  refine key ?_
  by_cases h : 1 ≤ x
  · exact h
  · have : x = 0 := by omega
    subst this
    rw [lets_small (by omega)] at hl
    simp at hl

end Go.Proofs.Qxb6601871a.Pl
