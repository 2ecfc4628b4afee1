/-
  THE WALKS OF THE SMALL FUNCTIONS ON FnGrantFirstMatchModel's ROAD: toRecord (13), key (21), hasKey (12), takeLen (16), queryLeft (9), takeRecs (8), zzBytes (7).
-/
import Derived.Test.Qxb6601939aRows
import Derived.WalkKit
import Derived.WalkSpells
import Derived.ProofKit
namespace Go.Proofs.Qxb6601939a.Grant
open Go.RowKit

/-- A record as plain data. -/
structure Rc where
  a : ByteArray
  b : ByteArray
  c : ByteArray
  d : Bool
  e : Bool

def Rc.small (r : Rc) : Prop := r.a.size ≤ maxLen ∧ r.b.size ≤ maxLen ∧ r.c.size ≤ maxLen

/-- The cells of the i-th of a row of records. -/
def RowAt (w : World) (b off : Nat) (R : Nat → Rc) (i : Nat) : Prop :=
  w.cell? ⟨b, off + i * 5, none⟩ = some (.string (R i).a) ∧ w.cell? ⟨b, off + i * 5 + 1, none⟩ = some (.string (R i).b) ∧ w.cell? ⟨b, off + i * 5 + 2, none⟩ = some (.string (R i).c) ∧
  w.cell? ⟨b, off + i * 5 + 3, none⟩ = some (.bool (R i).d) ∧ w.cell? ⟨b, off + i * 5 + 4, none⟩ = some (.bool (R i).e)

theorem toRecord_any (a b c : ByteArray) (d f : Bool) (w : World) : Calls Try.prog 13 #[.agg #[.string a, .string b, .string c, .bool d, .bool f]] w fun e w' =>
    e = .returned (.agg #[.string a, .string b, .string c, .bool d, .bool f]) ∧ ∃ o1 o2, w' = (w.alloc o1).alloc o2 := by
  go_enter Try.func13, Try.ntmps13
  go_wp2
  exact bodyPost_ret (v := .agg #[.string a, .string b, .string c, .bool d, .bool f]) (by simp [results, Try.results13, go_sem]) rfl ⟨rfl, _, _, rfl⟩

theorem key_any (a b c : ByteArray) (d f : Bool) (w : World) : Calls Try.prog 21 #[.agg #[.string a, .string b, .string c, .bool d, .bool f]] w fun e w' =>
    e = .returned (.agg #[.string a, .string b, .string c]) ∧ ∃ o1 o2, w' = (w.alloc o1).alloc o2 := by
  go_enter Try.func21, Try.ntmps21
  go_wp2
  exact bodyPost_ret (v := .agg #[.string a, .string b, .string c]) (by simp [results, Try.results21, go_sem]) rfl ⟨rfl, _, _, rfl⟩

/-- Do role, resource and letter all equal the query? -/
def keyB (a b c x y z : ByteArray) : Bool := a.toList == x.toList && (b.toList == y.toList && c.toList == z.toList)

theorem ret_bool {p q : Bool} (h : p = q) : Ending.returned (.bool p) = .returned (.bool q) := by rw [h]

theorem hasKey_any (a b c x y z : ByteArray) (d f : Bool) (w : World) : Calls Try.prog 12 #[.agg #[.string a, .string b, .string c, .bool d, .bool f], .string x, .string y, .string z] w fun e w' =>
    e = .returned (.bool (keyB a b c x y z)) ∧ ∃ o1, w' = w.alloc o1 := by
  go_enter Try.func12, Try.ntmps12
  go_wp2
  all_goals
    go_ret
    exact ⟨ret_bool (by unfold keyB; simp [*]), _, rfl⟩

theorem take_any (l n : Int) (w : World) (h0 : 0 ≤ n) (h1 : n ≤ 9223372036854775807) (h2 : -1 ≤ l) (h3 : l ≤ 1048576) :
    Calls Try.prog 16 #[.int .i64 l, .int .i64 n] w fun e w' => ∃ r : Int, e = .returned (.int .i64 r) ∧ -1 ≤ r ∧ r ≤ 1048576 ∧ w' = w := by
  by_cases c1 : l < 0
  · go_enter Try.func16, Try.ntmps16
    go_wp2
    go_ret
    exact ⟨-1, rfl, by omega, by omega, rfl⟩
  · by_cases c2 : l < n
    · go_enter Try.func16, Try.ntmps16
      go_wp2
      go_ret
      exact ⟨-1, rfl, by omega, by omega, rfl⟩
    · go_enter Try.func16, Try.ntmps16
      go_wp2
      go_ret
      exact ⟨l - n, rfl, by omega, by omega, rfl⟩

theorem queryLeft_any (x y z : ByteArray) (w : World) (hx : x.size ≤ maxLen) (hy : y.size ≤ maxLen) (hz : z.size ≤ maxLen) :
    Calls Try.prog 9 #[.string x, .string y, .string z] w fun e w' => ∃ r : Int, e = .returned (.int .i64 r) ∧ -1 ≤ r ∧ r ≤ 1048576 ∧ w' = w := by
  unfold maxLen at hx hy hz
  go_enter Try.func9, Try.ntmps9
  go_wp2_with fail
  refine (take_any _ _ _ (by omega) (by omega) (by omega) (by omega)).mono ?_
  rintro e w' ⟨r1, rfl, l1, u1, rfl⟩
  go_wp2_with fail
  refine (take_any _ _ _ (by omega) (by omega) (by omega) (by omega)).mono ?_
  rintro e w' ⟨r2, rfl, l2, u2, rfl⟩
  go_wp2_with fail
  refine (take_any _ _ _ (by omega) (by omega) (by omega) (by omega)).mono ?_
  rintro e w' ⟨r3, rfl, l3, u3, rfl⟩
  go_wp2_with fail
  go_ret
  exact ⟨r3, rfl, l3, u3, rfl⟩

set_option maxHeartbeats 400000 in
theorem takeRecs_any (l : Int) (b off N cap : Nat) (R : Nat → Rc) (w : World) (h2 : -1 ≤ l) (h3 : l ≤ 1048576) (hN : N ≤ maxLen) (hr : ∀ i, i < N → RowAt w b off R i) (hs : ∀ i, (R i).small) :
    Calls Try.prog 8 #[.int .i64 l, .slice (some ⟨b, off, none⟩) N cap] w fun e w' => ∃ r : Int, e = .returned (.int .i64 r) ∧ -1 ≤ r ∧ r ≤ 1048576 ∧ w' = w := by
  unfold maxLen at hN
  have HR : Hid (∀ i, i < N → RowAt w b off R i) := hr
  have HS : Hid (∀ i, (R i).small) := hs
  clear hr hs
  go_enter Try.func8, Try.ntmps8
  go_wp2
  go_loop [0, 5] (fun v i => ∃ (k : Nat) (r : Int), k ≤ N ∧ i = .int .i64 (k : Int) ∧ v = .int .i64 r ∧ -1 ≤ r ∧ r ≤ 1048576) (fun _ i => N - (intOf i).toNat)
  case atStart => exact ⟨0, l, Nat.zero_le _, rfl, rfl, h2, h3⟩
  case round =>
    obtain ⟨k, r, hk, rfl, rfl, l0, u0⟩ := hrel
    by_cases hlt : k < N
    · have g1 : (k : Int) < (N : Int) := by omega
      obtain ⟨c0, c1, c2, _, _⟩ := HR.out k hlt
      obtain ⟨s0, s1, s2⟩ := HS.out k
      unfold maxLen at s0 s1 s2
      go_wp2_with fail
      refine (take_any _ _ _ (by omega) (by omega) (by omega) (by omega)).mono ?_
      rintro e w' ⟨r1, rfl, l1, u1, rfl⟩
      go_wp2_with fail
      refine (take_any _ _ _ (by omega) (by omega) (by omega) (by omega)).mono ?_
      rintro e w' ⟨r2, rfl, l2, u2, rfl⟩
      go_wp2_with fail
      refine (take_any _ _ _ (by omega) (by omega) (by omega) (by omega)).mono ?_
      rintro e w' ⟨r3, rfl, l3, u3, rfl⟩
      go_wp2_with fail
      refine (take_any _ _ _ (by omega) (by omega) (by omega) (by omega)).mono ?_
      rintro e w' ⟨r4, rfl, l4, u4, rfl⟩
      go_wp2_with fail
      · go_ret
        exact ⟨-1, rfl, by omega, by omega, rfl⟩
      · go_round
        case rel => exact ⟨k + 1, r4, by omega, by go_num, rfl, l4, u4⟩
        case measure => simp [intOf]; omega
    · go_wp2
      go_ret
      exact ⟨r, rfl, l0, u0, rfl⟩

/-- An empty slice, whatever its address. -/
theorem takeRecs_none (l : Int) (ao : Option Addr) (cap : Nat) (w : World) (h2 : -1 ≤ l) (h3 : l ≤ 1048576) :
    Calls Try.prog 8 #[.int .i64 l, .slice ao 0 cap] w fun e w' => ∃ r : Int, e = .returned (.int .i64 r) ∧ -1 ≤ r ∧ r ≤ 1048576 ∧ w' = w := by
  go_enter Try.func8, Try.ntmps8
  go_wp2
  refine wp_loop_rounds 1 ?_
  rw [rounds_succ]
  go_wp2
  go_ret
  exact ⟨l, rfl, h2, h3, rfl⟩

/-- It returns a bool. -/
def IsBool (e : Ending) : Prop := ∃ c : Bool, e = .returned (.bool c)

theorem IsBool.mk (c : Bool) : IsBool (.returned (.bool c)) := ⟨c, rfl⟩

set_option maxHeartbeats 1000000 in
theorem bytes_any (b off N cap : Nat) (R : Nat → Rc) (x y z : ByteArray) (w : World) (hN : N ≤ maxLen) (hr : ∀ i, i < N → RowAt w b off R i) (hs : ∀ i, (R i).small) (hx : x.size ≤ maxLen) (hy : y.size ≤ maxLen) (hz : z.size ≤ maxLen) :
    Calls Try.prog 7 #[.slice (some ⟨b, off, none⟩) N cap, .string x, .string y, .string z] w fun e w' => IsBool e ∧ w' = w := by
  unfold maxLen at hN hx hy hz
  have HR : Hid (∀ i, i < N → RowAt w b off R i) := hr
  have HS : Hid (∀ i, (R i).small) := hs
  clear hr hs
  go_enter Try.func7, Try.ntmps7
  go_wp2
  · go_ret
    exact ⟨IsBool.mk _, rfl⟩
  · go_loop [9, 10] (fun v i => ∃ (k : Nat) (r : Int), k ≤ N ∧ i = .int .i64 (k : Int) ∧ v = .int .i64 r ∧ 0 ≤ r ∧ r ≤ 1048576) (fun _ i => N - (intOf i).toNat)
    case atStart => exact ⟨0, N, Nat.zero_le _, rfl, rfl, by omega, by omega⟩
    case round =>
      obtain ⟨k, r, hk, rfl, rfl, l0, u0⟩ := hrel
      by_cases hlt : k < N
      · have g1 : (k : Int) < (N : Int) := by omega
        obtain ⟨c0, c1, c2, _, _⟩ := HR.out k hlt
        obtain ⟨s0, s1, s2⟩ := HS.out k
        unfold maxLen at s0 s1 s2
        go_wp2
        case roundEnd =>
          go_round
          case rel => exact ⟨k + 1, _, by omega, by go_num, rfl, by omega, by omega⟩
          case measure => simp [intOf]; omega
        all_goals
          go_ret
          exact ⟨IsBool.mk _, rfl⟩
      · go_wp2
        all_goals
          go_ret
          exact ⟨IsBool.mk _, rfl⟩

set_option maxHeartbeats 1000000 in
theorem bytes_none (ao : Option Addr) (cap : Nat) (x y z : ByteArray) (w : World) (hx : x.size ≤ maxLen) (hy : y.size ≤ maxLen) (hz : z.size ≤ maxLen) :
    Calls Try.prog 7 #[.slice ao 0 cap, .string x, .string y, .string z] w fun e w' => IsBool e ∧ w' = w := by
  unfold maxLen at hx hy hz
  go_enter Try.func7, Try.ntmps7
  go_wp2
  refine wp_loop_rounds 1 ?_
  rw [rounds_succ]
  go_wp2
  all_goals
    go_ret
    exact ⟨IsBool.mk _, rfl⟩
end Go.Proofs.Qxb6601939a.Grant
