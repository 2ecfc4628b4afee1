/-
  THE PLAIN MATHEMATICS OF THE SHORTLEX ORDER ON NUMERALS.
-/
import Derived.Test.Qxb6601871aPlain
namespace Go.Proofs.Qxb6601871a.Pl

def cmpL : List Nat → List Nat → Int
  | a :: l, b :: r => if a = b then cmpL l r else if a < b then -1 else 1
  | _, _ => 0

/-- Shorter first, then letter by letter. -/
def scmp (l r : List Nat) : Int := if l.length = r.length then cmpL l r else if l.length < r.length then -1 else 1

def valW : List Nat → Nat
  | [] => 0
  | c :: l => (c - 97) * 26 ^ l.length + valW l

theorem foldl_valW : ∀ (l : List Nat) (v : Nat), l.foldl (fun v c => v * 26 + (c - 97)) v = v * 26 ^ l.length + valW l
  | [], v => by simp [valW]
  | c :: l, v => by
    rw [List.foldl_cons, foldl_valW l, List.length_cons, valW, Nat.pow_succ, Nat.add_mul]
    have e : v * 26 * 26 ^ l.length = v * (26 ^ l.length * 26) := by rw [Nat.mul_assoc, Nat.mul_comm 26]
    omega

theorem val_valW (l : List Nat) : val l = valW l := by
  unfold val
  rw [foldl_valW]
  omega

theorem valW_lt : ∀ (l : List Nat), (∀ c ∈ l, 97 ≤ c ∧ c ≤ 122) → valW l < 26 ^ l.length
  | [], _ => by simp [valW]
  | c :: l, h => by
    have h1 := valW_lt l (fun d hd => h d (List.mem_cons_of_mem _ hd))
    have h2 := h c (List.mem_cons_self ..)
    have h3 : (c - 97) * 26 ^ l.length ≤ 25 * 26 ^ l.length := Nat.mul_le_mul_right _ (by omega)
    rw [valW, List.length_cons, Nat.pow_succ]
    omega

theorem lead_lt {a b P u v : Nat} (h : a < b) (hu : u < P) : a * P + u < b * P + v := by
  have h1 : (a + 1) * P ≤ b * P := Nat.mul_le_mul_right _ h
  rw [Nat.add_mul] at h1
  omega

theorem cmpL_valW : ∀ (l r : List Nat), l.length = r.length → (∀ c ∈ l, 97 ≤ c ∧ c ≤ 122) → (∀ c ∈ r, 97 ≤ c ∧ c ≤ 122) →
    cmpL l r = if valW l < valW r then -1 else if valW r < valW l then 1 else 0
  | [], [], _, _, _ => by simp [cmpL, valW]
  | [], _ :: _, h, _, _ => by simp at h
  | _ :: _, [], h, _, _ => by simp at h
  | a :: l, b :: r, h, hl, hr => by
    have hlen : l.length = r.length := by simpa using h
    have hl' : ∀ c ∈ l, 97 ≤ c ∧ c ≤ 122 := fun d hd => hl d (List.mem_cons_of_mem _ hd)
    have hr' : ∀ c ∈ r, 97 ≤ c ∧ c ≤ 122 := fun d hd => hr d (List.mem_cons_of_mem _ hd)
    have ha := hl a (List.mem_cons_self ..)
    have hb := hr b (List.mem_cons_self ..)
    have ul := valW_lt l hl'
    have ur := valW_lt r hr'
    unfold cmpL
    by_cases e : a = b
    · subst e
      rw [if_pos rfl, cmpL_valW l r hlen hl' hr', valW, valW, hlen]
      simp only [Nat.add_lt_add_iff_left]
    · rw [if_neg e, valW, valW, hlen]
      rw [hlen] at ul
      by_cases c1 : a < b
      · rw [if_pos c1, if_pos (lead_lt (by omega) ul)]
      · have hh : (b - 97) * 26 ^ r.length + valW r < (a - 97) * 26 ^ r.length + valW l := lead_lt (by omega) ur
        rw [if_neg c1, if_neg (by omega), if_pos hh]

theorem lets_lt (x : Nat) : x < 26 ^ (lets x).length := by
  have h := valW_lt (lets x) (lets_range x)
  rwa [← val_valW, val_lets] at h

theorem lets_ge (x : Nat) : 1 ≤ x → 26 ^ ((lets x).length - 1) ≤ x := by
  refine lets_ind (p := fun x => 1 ≤ x → 26 ^ ((lets x).length - 1) ≤ x) (fun x h => ?_) (fun x h ih => ?_) x
  · intro h1
    rw [lets_small h]
    simpa using h1
  · intro _
    have h2 := ih (by omega)
    have hp := lets_pos (x / 26)
    rw [lets_big h, List.length_append]
    have e : (lets (x / 26)).length + [97 + x % 26].length - 1 = (lets (x / 26)).length - 1 + 1 := by simp; omega
    rw [e, Nat.pow_succ]
    omega

theorem len_lt {a b : Nat} (h : (lets a).length < (lets b).length) : a < b := by
  have h1 := lets_lt a
  have hp := lets_pos a
  have hb : 1 ≤ b := by
    by_cases h0 : 1 ≤ b
    · exact h0
    · have : b = 0 := by omega
      subst this
      rw [lets_small (x := 0) (by omega), List.length_singleton] at h
      omega
  have h2 := lets_ge b hb
  have h3 : 26 ^ (lets a).length ≤ 26 ^ ((lets b).length - 1) := Nat.pow_le_pow_right (by omega) (by omega)
  omega

theorem scmp_lets (a b : Nat) : scmp (lets a) (lets b) = if a < b then -1 else if b < a then 1 else 0 := by
  unfold scmp
  by_cases h : (lets a).length = (lets b).length
  · rw [if_pos h, cmpL_valW _ _ h (lets_range a) (lets_range b), ← val_valW, ← val_valW, val_lets, val_lets]
  · rw [if_neg h]
    by_cases h1 : (lets a).length < (lets b).length
    · rw [if_pos h1, if_pos (len_lt h1)]
    · have := len_lt (a := b) (b := a) (by omega)
      rw [if_neg h1, if_neg (by omega), if_pos this]

theorem cmpL_drop (l r : List Nat) (k : Nat) (hl : k < l.length) (hr : k < r.length) :
    cmpL (l.drop k) (r.drop k) = if l[k] = r[k] then cmpL (l.drop (k + 1)) (r.drop (k + 1)) else if l[k] < r[k] then -1 else 1 := by
  rw [List.drop_eq_getElem_cons hl, List.drop_eq_getElem_cons hr, cmpL]

end Go.Proofs.Qxb6601871a.Pl
