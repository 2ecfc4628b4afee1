/-
  THE PLAIN MATHEMATICS OF THE WORD SUM: bytes at even and at odd offsets; the sum of 16-bit big-endian words.
-/
import Derived.KernelRfl
namespace Go.Proofs.Qxb6603105a.Pl

def evS : List Nat → Nat
  | [] => 0
  | [a] => a
  | a :: _ :: l => a + evS l

def odS : List Nat → Nat
  | [] => 0
  | [_] => 0
  | _ :: b :: l => b + odS l

def wS : List Nat → Nat
  | [] => 0
  | [a] => a * 256
  | a :: b :: l => a * 256 + b + wS l

theorem wS_eq : ∀ l : List Nat, wS l = evS l * 256 + odS l
  | [] => rfl
  | [a] => by simp [wS, evS, odS]
  | a :: b :: l => by
    have h := wS_eq l
    simp only [wS, evS, odS]
    omega

theorem evS_snoc : ∀ (l : List Nat) (c : Nat), evS (l ++ [c]) = evS l + if l.length % 2 = 0 then c else 0
  | [], c => by simp [evS]
  | [a], c => by simp [evS]
  | a :: b :: l, c => by
    have h := evS_snoc l c
    have e : (a :: b :: l).length % 2 = l.length % 2 := by simp [Nat.add_assoc]
    simp only [List.cons_append, evS]
    rw [e, h]
    omega

theorem odS_snoc : ∀ (l : List Nat) (c : Nat), odS (l ++ [c]) = odS l + if l.length % 2 = 0 then 0 else c
  | [], c => by simp [odS]
  | [a], c => by simp [odS]
  | a :: b :: l, c => by
    have h := odS_snoc l c
    have e : (a :: b :: l).length % 2 = l.length % 2 := by simp [Nat.add_assoc]
    simp only [List.cons_append, odS]
    rw [e, h]
    omega

/-- Each sum is at most 255 times as many as there are. -/
theorem sums_le : ∀ (l : List Nat), (∀ c ∈ l, c ≤ 255) → evS l ≤ 255 * l.length ∧ odS l ≤ 255 * l.length ∧ wS l ≤ 65535 * ((l.length + 1) / 2)
  | [], _ => by simp [evS, odS, wS]
  | [a], h => by
    have := h a (by simp)
    simp [evS, odS, wS]
    omega
  | a :: b :: l, h => by
    have i := sums_le l (fun c hc => h c (by simp [hc]))
    have ha := h a (by simp)
    have hb := h b (by simp)
    simp only [evS, odS, wS, List.length_cons]
    omega

theorem take_snoc (l : List Nat) (k : Nat) (h : k < l.length) : l.take (k + 1) = l.take k ++ [l[k]] := List.take_succ_eq_append_getElem h

theorem ev_take (l : List Nat) (k : Nat) (h : k < l.length) : evS (l.take (k + 1)) = evS (l.take k) + if k % 2 = 0 then l[k] else 0 := by
  rw [take_snoc l k h, evS_snoc, List.length_take, Nat.min_eq_left (by omega)]

theorem od_take (l : List Nat) (k : Nat) (h : k < l.length) : odS (l.take (k + 1)) = odS (l.take k) + if k % 2 = 0 then 0 else l[k] := by
  rw [take_snoc l k h, odS_snoc, List.length_take, Nat.min_eq_left (by omega)]

theorem take_sums (l : List Nat) (h : ∀ c ∈ l, c ≤ 255) (hl : l.length ≤ 1048576) (k : Nat) : evS (l.take k) ≤ 267386880 ∧ odS (l.take k) ≤ 267386880 := by
  have i := sums_le (l.take k) (fun c hc => h c (List.mem_of_mem_take hc))
  have : (l.take k).length ≤ l.length := List.length_take_le' _ _
  omega

theorem wS_drop (l : List Nat) (k : Nat) (h : k + 1 < l.length) : wS (l.drop k) = l[k] * 256 + l[k + 1] + wS (l.drop (k + 2)) := by
  rw [List.drop_eq_getElem_cons (by omega), List.drop_eq_getElem_cons (i := k + 1) (by omega), wS]

theorem wS_drop1 (l : List Nat) (k : Nat) (h : k + 1 = l.length) : wS (l.drop k) = (l[k]'(by omega)) * 256 := by
  rw [List.drop_eq_getElem_cons (by omega), List.drop_of_length_le (by omega), wS]

theorem wS_drop0 (l : List Nat) (k : Nat) (h : l.length ≤ k) : wS (l.drop k) = 0 := by
  rw [List.drop_of_length_le h, wS]

end Go.Proofs.Qxb6603105a.Pl
