/-
  THE WALK OF zzCloneBytes (8): a row of its own with the same bytes.
-/
import Derived.Test.Qxb6603105aRows
import Derived.Test.Qxb6603105aPlain
import Derived.WalkKit
import Derived.WalkSpells
import Derived.ProofKit
import Derived.Deep.OwnRows
import Derived.Lib.SliceRun
namespace Go.Proofs.Qxb6603105a.Word
open Go.RowKit Pl

theorem info5 : (Try.prog.info? 5).map (fun i => (i.zero, i.size, i.bytes)) = some (some (.int .u8 0), 1, 1) := by kernel_rfl

/-- A row of bytes. -/
def brow (l : List Nat) : Array Value := (l.map fun d : Nat => Value.int .u8 (d : Int)).toArray

theorem brow_at (l : List Nat) (k : Nat) (h : k < l.length) : (brow l)[k]? = some (.int .u8 (l[k] : Int)) := by
  unfold brow
  simp [h]

theorem brow_set (l : List Nat) (k c : Nat) : (brow l).setIfInBounds k (.int .u8 (c : Int)) = brow (l.set k c) := by
  unfold brow
  simp [List.map_set]

theorem brow_made (n : Nat) : madeCells #[.int .u8 0] n = brow (List.replicate n 0) := by
  apply Array.toList_inj.1
  rw [toList_madeCells_one]
  simp [brow]

theorem make_row (n : Nat) (h : n ≤ 1048576) (w : World) : (Instr.makeSlice 23 (.int .i64 (n : Int)) (.int .i64 (n : Int))).run Try.prog w = .ok (.slice (some ⟨w.heap.size, 0, none⟩) n n) (w.alloc (.cells (brow (List.replicate n 0)) 5)) := by
  rw [run_make_row' (P := Try.prog) 23 5 (.int .u8 0) 1 Try.underlying23 info5 rfl .i64 .i64 n (by omega) (by omega) w, brow_made]

theorem copy_step (L : List Nat) (N k : Nat) (hN : N = L.length) (hk : k < L.length) :
    k < (L.take k ++ List.replicate (N - k) 0).length ∧ (L.take k ++ List.replicate (N - k) 0).set k L[k] = L.take (k + 1) ++ List.replicate (N - (k + 1)) 0 := by
  refine ⟨by simp; omega, ?_⟩
  rw [show N - k = (N - (k + 1)) + 1 by omega, List.replicate_succ, List.set_append_right _ _ (by simp; omega), List.take_succ_eq_append_getElem hk, List.append_assoc]
  rw [List.length_take, Nat.min_eq_left (by omega), Nat.sub_self]
  rfl

set_option maxHeartbeats 400000 in
/-- A copy of a row of bytes. -/
theorem clone_any (b off N cap : Nat) (L : List Nat) (w : World) (hN : N ≤ 1048576) (hL : N = L.length) (hb : b < w.heap.size) (hc : ∀ i (h : i < L.length), w.cell? ⟨b, off + i, none⟩ = some (.int .u8 (L[i] : Int))) :
    Calls Try.prog 8 #[.slice (some ⟨b, off, none⟩) N cap] w fun e w' => e = .returned (.slice (some ⟨w.heap.size, 0, none⟩) N N) ∧ w' = w.alloc (.cells (brow L) 5) := by
  have HC : Hid (∀ i (h : i < L.length), w.cell? ⟨b, off + i, none⟩ = some (.int .u8 (L[i] : Int))) := hc
  have HL : Hid (N = L.length) := hL
  clear hc hL
  have hmk := fun W => make_row N hN W
  have hnil := fun W => Lib.run_eql_slice_nil (P := Try.prog) W 23 5 (some ⟨b, off, none⟩) N cap 0 0 Try.underlying23
  go_enter Try.func8, Try.ntmps8
  go_wp2
  go_loopw [4] (fun i wr => ∃ (k : Nat) (l : List Nat), k ≤ N ∧ i = .int .i64 (k : Int) ∧ wr = w.alloc (.cells (brow l) 5) ∧ l = L.take k ++ List.replicate (N - k) 0) (fun i _ => N - (intOf i).toNat)
  case atStart => exact ⟨0, _, Nat.zero_le _, rfl, rfl, rfl⟩
  case round =>
    obtain ⟨k, l, hk, rfl, rfl, hl⟩ := hrel
    have HE : Hid (l = L.take k ++ List.replicate (N - k) 0) := hl
    clear hl
    by_cases hlt : k < N
    · have g1 : (k : Int) < (N : Int) := by omega
      have hkl : k < L.length := by have := HL.out; omega
      obtain ⟨h1, h2⟩ := copy_step L N k HL.out hkl
      rw [← HE.out] at h1 h2
      have hc := HC.out k hkl
      have hst := brow_set l k L[k]
      rw [h2] at hst
      obtain ⟨c, ha⟩ : ∃ c, (brow l)[k]? = some (.int .u8 c) := ⟨_, brow_at l k h1⟩
      obtain ⟨d, hd⟩ : ∃ d : Nat, d = L[k] := ⟨_, rfl⟩
      rw [← hd] at hc hst
      clear h1 h2 hd hkl
      go_wp2
      go_roundw
      case rel => exact ⟨k + 1, _, by omega, by go_num, rfl, rfl⟩
      case measure => simp [intOf]; omega
    · have hl : l = L := by
        rw [HE.out, List.take_of_length_le (by have := HL.out; omega), show N - k = 0 by omega]
        simp
      subst hl
      go_wp2
      go_ret
      exact ⟨rfl, rfl⟩

theorem clone_nil (w : World) : Calls Try.prog 8 #[.slice none 0 0] w fun e w' => e = .returned (.slice none 0 0) ∧ w' = w := by
  have hnil := fun W => Lib.run_eql_slice_nil (P := Try.prog) W 23 5 none 0 0 0 0 Try.underlying23
  go_enter Try.func8, Try.ntmps8
  go_wp2
  go_ret
  exact ⟨rfl, rfl⟩

/-- An empty slice that is not nil, whatever its address. -/
theorem clone_empty (x : Addr) (cap : Nat) (w : World) : Calls Try.prog 8 #[.slice (some x) 0 cap] w fun e w' => e = .returned (.slice (some ⟨w.heap.size, 0, none⟩) 0 0) ∧ ∃ o, w' = w.alloc o := by
  have hmk : ∀ W : World, (Instr.makeSlice 23 (.int .i64 0) (.int .i64 0)).run Try.prog W = .ok (.slice (some ⟨W.heap.size, 0, none⟩) 0 0) (W.alloc (.cells (brow (List.replicate 0 0)) 5)) := fun W => make_row 0 (by omega) W
  have hnil := fun W => Lib.run_eql_slice_nil (P := Try.prog) W 23 5 (some x) 0 cap 0 0 Try.underlying23
  go_enter Try.func8, Try.ntmps8
  go_wp2
  refine wp_loop_rounds 1 ?_
  rw [rounds_succ]
  go_wp2
  go_ret
  exact ⟨rfl, _, rfl⟩

end Go.Proofs.Qxb6603105a.Word
