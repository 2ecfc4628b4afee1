/-
  THE WALKS OF FnStaffBranchSameIffSameTag (5) AND OF WHAT SHE CALLS (15, 16, 17, 22).
-/
import Derived.Test.Qxb6601939aRows
import Derived.WalkKit
import Derived.WalkSpells
import Derived.ProofKit
namespace Go.Proofs.Qxb6601939a.Branch
open Go.RowKit

theorem branch_nil (w : World) : Calls Try.prog 22 #[.pointer none] w fun e w' => e = .returned (.agg #[.string ⟨#[]⟩]) ∧ ∃ v, w' = w.alloc (.cells #[v] 43) := by
  go_enter Try.func22, Try.ntmps22
  go_wp2
  exact bodyPost_ret (v := .agg #[.string ⟨#[]⟩]) (by simp [results, Try.results22, go_sem]) rfl ⟨rfl, _, rfl⟩

theorem branch_some (b off : Nat) (s : ByteArray) (w : World) (hc : w.cell? ⟨b, off, none⟩ = some (.string s)) (hb : b < w.heap.size) : Calls Try.prog 22 #[.pointer (some ⟨b, off, none⟩)] w fun e w' => e = .returned (.agg #[.string s]) ∧ ∃ v, w' = w.alloc (.cells #[v] 43) := by
  have hne : b ≠ w.heap.size := by omega
  go_enter Try.func22, Try.ntmps22
  go_wp2
  exact bodyPost_ret (v := .agg #[.string s]) (by simp [results, Try.results22, go_sem]) rfl ⟨rfl, _, rfl⟩

theorem zz_nil (w : World) : Calls Try.prog 17 #[.pointer none] w fun e w' => e = .returned (.agg #[.string ⟨#[]⟩]) ∧ ∃ v u, w' = (w.alloc (.cells #[v] 43)).alloc (.cells #[u] 43) := by
  go_enter Try.func17, Try.ntmps17
  go_wp2_with (go_at_call 22; refine (branch_nil _).mono ?_; rintro e w' ⟨rfl, v, rfl⟩)

  exact bodyPost_ret (v := .agg #[.string ⟨#[]⟩]) (by simp [results, Try.results17, go_sem]) rfl ⟨rfl, _, _, rfl⟩

theorem zz_some (b off : Nat) (s : ByteArray) (w : World) (hc : w.cell? ⟨b, off, none⟩ = some (.string s)) (hb : b < w.heap.size) : Calls Try.prog 17 #[.pointer (some ⟨b, off, none⟩)] w fun e w' => e = .returned (.agg #[.string s]) ∧ ∃ v u, w' = (w.alloc (.cells #[v] 43)).alloc (.cells #[u] 43) := by
  have hne : b ≠ w.heap.size := by omega
  go_enter Try.func17, Try.ntmps17
  go_wp2_with fail
  refine (branch_some b off s _ ?_ ?_).mono ?_
  · rw [World.cell?_alloc_old _ _ _ hne]; exact hc
  · rw [World.size_alloc]; omega
  rintro e w' ⟨rfl, v, rfl⟩
  go_wp2

  exact bodyPost_ret (v := .agg #[.string s]) (by simp [results, Try.results17, go_sem]) rfl ⟨rfl, _, _, rfl⟩

theorem below_alloc {W w : World} (h : Below W.heap.size W w) (o : Obj) : Below W.heap.size W (w.alloc o) := h.alloc h.size o

theorem ret_true {b : Bool} (h : b = true) : Ending.returned (.bool b) = .returned (.bool true) := by rw [h]

/-- What is known of a '*string': it is nil and stands for the empty string, or it leads to the string s. -/
def Arg (w : World) (a : Option Addr) (s : ByteArray) : Prop := (a = none ∧ s = ⟨#[]⟩) ∨ ∃ b off, a = some ⟨b, off, none⟩ ∧ w.cell? ⟨b, off, none⟩ = some (.string s) ∧ b < w.heap.size

theorem bytes_ok (a b : Option Addr) (s t : ByteArray) (w : World) (ha : Arg w a s) (hb : Arg w b t) (h : s.size + t.size ≤ 1048576) :
    Calls Try.prog 15 #[.pointer a, .pointer b] w fun e w' => e = .returned (.bool true) ∧ w' = w := by
  have h1 : (s.size : Int) + (t.size : Int) ≤ 1048576 := by omega
  rcases ha with ⟨rfl, rfl⟩ | ⟨x, o, rfl, hc, hx⟩ <;> rcases hb with ⟨rfl, rfl⟩ | ⟨y, q, rfl, hd, hy⟩
  all_goals
    go_enter Try.func15, Try.ntmps15
    go_wp2
    go_ret
    exact ⟨rfl, rfl⟩

theorem bytes_bad (a b : Option Addr) (s t : ByteArray) (w : World) (ha : Arg w a s) (hb : Arg w b t) (h : 1048576 < s.size + t.size) (ms : s.size ≤ maxLen) (mt : t.size ≤ maxLen) :
    Calls Try.prog 15 #[.pointer a, .pointer b] w fun e w' => e = .returned (.bool false) ∧ w' = w := by
  unfold maxLen at ms mt
  have h1 : 1048576 < (s.size : Int) + (t.size : Int) := by omega
  rcases ha with ⟨rfl, rfl⟩ | ⟨x, o, rfl, hc, hx⟩ <;> rcases hb with ⟨rfl, rfl⟩ | ⟨y, q, rfl, hd, hy⟩
  · exact absurd h (by decide)
  · have h2 : 1048576 < (t.size : Int) := by
      have e : (⟨#[]⟩ : ByteArray).size = 0 := rfl
      rw [e] at h
      omega
    clear h h1 ms
    go_enter Try.func15, Try.ntmps15
    go_wp2
    go_ret
    exact ⟨rfl, rfl⟩
  · have h2 : 1048576 < (s.size : Int) := by
      have e : (⟨#[]⟩ : ByteArray).size = 0 := rfl
      rw [e] at h
      omega
    clear h h1 mt
    go_enter Try.func15, Try.ntmps15
    go_wp2
    go_ret
    exact ⟨rfl, rfl⟩
  · go_enter Try.func15, Try.ntmps15
    go_wp2
    all_goals (go_ret; exact ⟨rfl, rfl⟩)

theorem take_ok (l n : Int) (w : World) (h0 : 0 ≤ n) (h1 : n ≤ l) (h2 : l ≤ 1048576) :
    Calls Try.prog 16 #[.int .i64 l, .int .i64 n] w fun e w' => e = .returned (.int .i64 (l - n)) ∧ w' = w := by
  go_enter Try.func16, Try.ntmps16
  go_wp2
  go_ret
  exact ⟨rfl, rfl⟩


set_option maxHeartbeats 400000 in
theorem same_any (a b : Option Addr) (s t : ByteArray) (w : World) (ha : Arg w a s) (hb : Arg w b t) (ms : s.size ≤ maxLen) (mt : t.size ≤ maxLen) :
    Calls Try.prog 5 #[.pointer a, .pointer b] w fun e w' => e = .returned (.bool true) ∧ Below w.heap.size w w' := by
  by_cases h : s.size + t.size ≤ 1048576
  · have h1 : (s.size : Int) + (t.size : Int) ≤ 1048576 := by omega
    have HB : Hid (Arg w a s ∧ Arg w b t) := ⟨ha, hb⟩
    rcases ha with ⟨rfl, rfl⟩ | ⟨x, o, rfl, hc, hx⟩ <;> rcases hb with ⟨rfl, rfl⟩ | ⟨y, q, rfl, hd, hy⟩
    · go_enter Try.func5, Try.ntmps5
      go_wp2_with fail
      refine (bytes_ok _ _ _ _ _ HB.out.1 HB.out.2 h).mono ?_
      rintro e w' ⟨rfl, rfl⟩
      go_wp2_with fail
      refine (zz_nil _).mono ?_
      rintro e w' ⟨rfl, v, u, rfl⟩
      go_wp2_with fail
      refine (zz_nil _).mono ?_
      rintro e w' ⟨rfl, v, u, rfl⟩
      go_wp2_with fail
      go_ret
      exact ⟨rfl, by repeat (first | exact Below.refl _ _ | apply below_alloc)⟩
    · have m2 : (t.size : Int) ≤ 1048576 := by omega
      go_enter Try.func5, Try.ntmps5
      go_wp2_with fail
      refine (bytes_ok _ _ _ _ _ HB.out.1 HB.out.2 h).mono ?_
      rintro e w' ⟨rfl, rfl⟩
      go_wp2_with fail
      refine (take_ok _ _ _ ?_ ?_ ?_).mono ?_
      · omega
      · omega
      · omega
      rintro e w' ⟨rfl, rfl⟩
      go_wp2_with fail
      refine (zz_nil _).mono ?_
      rintro e w' ⟨rfl, v, u, rfl⟩
      go_wp2_with fail
      refine (zz_some _ _ t _ ?_ ?_).mono ?_
      · go_simp
      · simp only [World.size_alloc]; omega
      rintro e w' ⟨rfl, v2, u2, rfl⟩
      go_wp2_with fail
      all_goals
        go_ret
        exact ⟨ret_true (by first | rfl | simp_all), by repeat (first | exact Below.refl _ _ | apply below_alloc)⟩
    · have m1 : (s.size : Int) ≤ 1048576 := by omega
      go_enter Try.func5, Try.ntmps5
      go_wp2_with fail
      refine (bytes_ok _ _ _ _ _ HB.out.1 HB.out.2 h).mono ?_
      rintro e w' ⟨rfl, rfl⟩
      go_wp2_with fail
      refine (take_ok _ _ _ ?_ ?_ ?_).mono ?_
      · omega
      · omega
      · omega
      rintro e w' ⟨rfl, rfl⟩
      go_wp2_with fail
      refine (zz_some _ _ s _ ?_ ?_).mono ?_
      · go_simp
      · simp only [World.size_alloc]; omega
      rintro e w' ⟨rfl, v2, u2, rfl⟩
      go_wp2_with fail
      refine (zz_nil _).mono ?_
      rintro e w' ⟨rfl, v, u, rfl⟩
      go_wp2_with fail
      all_goals
        go_ret
        exact ⟨ret_true (by first | rfl | simp_all), by repeat (first | exact Below.refl _ _ | apply below_alloc)⟩
    · have m1 : (s.size : Int) ≤ 1048576 := by omega
      have m2 : (t.size : Int) ≤ 1048576 := by omega
      go_enter Try.func5, Try.ntmps5
      go_wp2_with fail
      refine (bytes_ok _ _ _ _ _ HB.out.1 HB.out.2 h).mono ?_
      rintro e w' ⟨rfl, rfl⟩
      go_wp2_with fail
      refine (take_ok _ _ _ ?_ ?_ ?_).mono ?_
      · omega
      · omega
      · omega
      rintro e w' ⟨rfl, rfl⟩
      go_wp2_with fail
      refine (take_ok _ _ _ ?_ ?_ ?_).mono ?_
      · omega
      · omega
      · omega
      rintro e w' ⟨rfl, rfl⟩
      go_wp2_with fail
      refine (zz_some _ _ s _ ?_ ?_).mono ?_
      · go_simp
      · simp only [World.size_alloc]; omega
      rintro e w' ⟨rfl, v2, u2, rfl⟩
      go_wp2_with fail
      refine (zz_some _ _ t _ ?_ ?_).mono ?_
      · go_simp
      · simp only [World.size_alloc]; omega
      rintro e w' ⟨rfl, v, u, rfl⟩
      go_wp2_with fail
      all_goals
        go_ret
        exact ⟨ret_true (by first | rfl | simp_all), by repeat (first | exact Below.refl _ _ | apply below_alloc)⟩
  · go_enter Try.func5, Try.ntmps5
    go_wp2_with (go_at_call 15; refine (bytes_bad _ _ _ _ _ ha hb (by omega) ms mt).mono ?_; rintro e w' ⟨rfl, rfl⟩)
    go_ret
    exact ⟨rfl, Below.refl _ _⟩
end Go.Proofs.Qxb6601939a.Branch
