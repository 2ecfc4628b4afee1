/-
  THE WALK OF toTable (10).
-/
import Derived.Test.Qxb6601939aGrantA

namespace Go.Proofs.Qxb6601939a.Grant
open Go.RowKit

theorem info31 : (Try.prog.info? 31).map (fun i => (i.zero, i.size, i.bytes)) = some (some (.agg #[.string ⟨#[]⟩, .string ⟨#[]⟩, .string ⟨#[]⟩, .bool false, .bool false]), 5, 56) := by kernel_rfl

def zero5 : Array Value := #[.string ⟨#[]⟩, .string ⟨#[]⟩, .string ⟨#[]⟩, .bool false, .bool false]

theorem make_tab (N : Nat) (h : N ≤ 65536) (w : World) : (Instr.makeSlice 27 (.int .i64 (N : Int)) (.int .i64 (N : Int))).run Try.prog w = .ok (.slice (some ⟨w.heap.size, 0, none⟩) N N) (w.alloc (.cells (madeCells zero5 (N * 5)) 31)) := by
  obtain ⟨i, hi, hz, hs, hb⟩ := info_parts info31
  have hr := run_make (P := Try.prog) w 27 31 i _ Try.underlying27 hi hz .i64 .i64 (N : Int) (N : Int) (by omega) (Int.le_refl _) (by rw [hb]; omega) (by omega)
  rw [hs, Int.toNat_natCast] at hr
  exact hr

/-- A block of N * 5 cells, none frozen, of which the first k records are R's. -/
def TabIs (w : World) (B N : Nat) (R : Nat → Rc) (k : Nat) : Prop :=
  ∃ arr, w.heap[B]? = some (.cells arr 31 (0, 0)) ∧ arr.size = N * 5 ∧ ∀ i, i < k → arr[i * 5]? = some (.string (R i).a) ∧ arr[i * 5 + 1]? = some (.string (R i).b) ∧ arr[i * 5 + 2]? = some (.string (R i).c) ∧ arr[i * 5 + 3]? = some (.bool (R i).d) ∧ arr[i * 5 + 4]? = some (.bool (R i).e)

theorem tab_cell {w : World} {B : Nat} {arr : Array Value} {t : TypeId} (h : w.heap[B]? = some (.cells arr t (0, 0))) (m : Nat) : w.cell? ⟨B, m, none⟩ = arr[m]? := by
  simp [World.cell?, h]

theorem tab_free {w : World} {B : Nat} {arr : Array Value} {t : TypeId} (h : w.heap[B]? = some (.cells arr t (0, 0))) (m : Nat) : w.frozen? ⟨B, m, none⟩ = false := by
  simp [World.frozen?, h]

theorem some_at (arr : Array Value) (m : Nat) (h : m < arr.size) : ∃ v, arr[m]? = some v := ⟨arr[m], by simp [h]⟩

theorem tab_set {w : World} {B : Nat} {arr : Array Value} {t : TypeId} (h : w.heap[B]? = some (.cells arr t (0, 0))) (m : Nat) (v : Value) : (w.setCell ⟨B, m, none⟩ v).heap[B]? = some (.cells (arr.setIfInBounds m v) t (0, 0)) := by
  simp only [World.setCell, Array.getElem?_modify]
  rw [if_pos trivial, h]
  rfl

theorem tab_alloc {w : World} {B : Nat} {o : Obj} (h : w.heap[B]? = some o) (q : Obj) : (w.alloc q).heap[B]? = some o := by
  have hlt : B < w.heap.size := by
    rcases Nat.lt_or_ge B w.heap.size with h' | h'
    · exact h'
    · rw [Array.getElem?_eq_none h'] at h; simp at h
  rw [Below.heap_alloc _ _ _ hlt]
  exact h

def set5 (arr : Array Value) (m : Nat) (v0 v1 v2 v3 v4 : Value) : Array Value := ((((arr.setIfInBounds m v0).setIfInBounds (m + 1) v1).setIfInBounds (m + 2) v2).setIfInBounds (m + 3) v3).setIfInBounds (m + 4) v4

theorem set5_size (arr : Array Value) (m : Nat) (v0 v1 v2 v3 v4 : Value) : (set5 arr m v0 v1 v2 v3 v4).size = arr.size := by simp [set5]

theorem set5_other (arr : Array Value) (m j : Nat) (v0 v1 v2 v3 v4 : Value) (h : j < m ∨ m + 4 < j) : (set5 arr m v0 v1 v2 v3 v4)[j]? = arr[j]? := by
  unfold set5
  simp only [Array.getElem?_setIfInBounds]
  rw [if_neg (by omega), if_neg (by omega), if_neg (by omega), if_neg (by omega), if_neg (by omega)]

theorem set5_at (arr : Array Value) (m : Nat) (v0 v1 v2 v3 v4 : Value) (h : m + 4 < arr.size) :
    (set5 arr m v0 v1 v2 v3 v4)[m]? = some v0 ∧ (set5 arr m v0 v1 v2 v3 v4)[m + 1]? = some v1 ∧ (set5 arr m v0 v1 v2 v3 v4)[m + 2]? = some v2 ∧ (set5 arr m v0 v1 v2 v3 v4)[m + 3]? = some v3 ∧ (set5 arr m v0 v1 v2 v3 v4)[m + 4]? = some v4 := by
  unfold set5
  simp only [Array.getElem?_setIfInBounds, Array.size_setIfInBounds]
  refine ⟨?_, ?_, ?_, ?_, ?_⟩
  · rw [if_neg (by omega), if_neg (by omega), if_neg (by omega), if_neg (by omega), if_pos trivial, if_pos (by omega)]
  · rw [if_neg (by omega), if_neg (by omega), if_neg (by omega), if_pos trivial, if_pos (by omega)]
  · rw [if_neg (by omega), if_neg (by omega), if_pos trivial, if_pos (by omega)]
  · rw [if_neg (by omega), if_pos trivial, if_pos (by omega)]
  · rw [if_pos trivial, if_pos (by omega)]

theorem tab_step {w : World} {B N k : Nat} {R : Nat → Rc} {arr : Array Value} (harr : w.heap[B]? = some (.cells arr 31 (0, 0))) (hsz : arr.size = N * 5)
    (hal : ∀ i, i < k → arr[i * 5]? = some (.string (R i).a) ∧ arr[i * 5 + 1]? = some (.string (R i).b) ∧ arr[i * 5 + 2]? = some (.string (R i).c) ∧ arr[i * 5 + 3]? = some (.bool (R i).d) ∧ arr[i * 5 + 4]? = some (.bool (R i).e)) (hk : k < N) (o1 o2 : Obj) :
    TabIs (((((((w.setCell ⟨B, k * 5, none⟩ (.string (R k).a)).setCell ⟨B, k * 5 + 1, none⟩ (.string (R k).b)).setCell ⟨B, k * 5 + 2, none⟩ (.string (R k).c)).setCell ⟨B, k * 5 + 3, none⟩ (.bool (R k).d)).setCell ⟨B, k * 5 + 4, none⟩ (.bool (R k).e)).alloc o1).alloc o2) B N R (k + 1) := by
  refine ⟨set5 arr (k * 5) (.string (R k).a) (.string (R k).b) (.string (R k).c) (.bool (R k).d) (.bool (R k).e), tab_alloc (tab_alloc (tab_set (tab_set (tab_set (tab_set (tab_set harr _ _) _ _) _ _) _ _) _ _) _) _, by rw [set5_size, hsz], fun i hi => ?_⟩
  by_cases he : i = k
  · subst he
    exact set5_at arr (i * 5) _ _ _ _ _ (by omega)
  · rw [set5_other _ _ _ _ _ _ _ _ (by omega), set5_other _ _ _ _ _ _ _ _ (by omega), set5_other _ _ _ _ _ _ _ _ (by omega), set5_other _ _ _ _ _ _ _ _ (by omega), set5_other _ _ _ _ _ _ _ _ (by omega)]
    exact hal i (by omega)

theorem below5 {W w : World} {p0 p1 p2 p3 p4 : Addr} {v0 v1 v2 v3 v4 : Value} {o1 o2 : Obj} (h : Below W.heap.size W w) (h0 : W.heap.size ≤ p0.block) (h1 : W.heap.size ≤ p1.block) (h2 : W.heap.size ≤ p2.block) (h3 : W.heap.size ≤ p3.block) (h4 : W.heap.size ≤ p4.block) :
    Below W.heap.size W (((((((w.setCell p0 v0).setCell p1 v1).setCell p2 v2).setCell p3 v3).setCell p4 v4).alloc o1).alloc o2) := by
  have a := ((((h.setCell h0 v0).setCell h1 v1).setCell h2 v2).setCell h3 v3).setCell h4 v4
  have b := a.alloc a.size o1
  exact b.alloc b.size o2

set_option maxHeartbeats 1000000 in
theorem toTable_any (b off N cap : Nat) (R : Nat → Rc) (w : World) (hN : N ≤ 65536) (hr : ∀ i, i < N → RowAt w b off R i) (hb : b < w.heap.size) :
    Calls Try.prog 10 #[.slice (some ⟨b, off, none⟩) N cap] w fun e w' => e = .returned (.slice (some ⟨w.heap.size, 0, none⟩) N N) ∧ Below w.heap.size w w' ∧ TabIs w' w.heap.size N R N := by
  have HR : Hid (∀ i, i < N → RowAt w b off R i) := hr
  clear hr
  have hmk := fun W => make_tab N hN W
  have hnil := fun W => Lib.run_eql_slice_nil (P := Try.prog) W 22 36 (some ⟨b, off, none⟩) N cap 0 0 Try.underlying22
  go_enter Try.func10, Try.ntmps10
  go_wp2
  go_loopw [4] (fun i wr => ∃ k : Nat, k ≤ N ∧ i = .int .i64 (k : Int) ∧ Below w.heap.size w wr ∧ TabIs wr w.heap.size N R k) (fun i _ => N - (intOf i).toNat)
  case atStart =>
    refine ⟨0, Nat.zero_le _, rfl, (Below.refl _ _).alloc (Nat.le_refl _) _, madeCells zero5 (N * 5), heap_alloc_new _ _, size_madeCells _ _, fun i hi => by omega⟩
  case round =>
    obtain ⟨k, hk, rfl, hbel, arr, harr, hsz, hal⟩ := hrel
    have HA : Hid (∀ i, i < k → arr[i * 5]? = some (.string (R i).a) ∧ arr[i * 5 + 1]? = some (.string (R i).b) ∧ arr[i * 5 + 2]? = some (.string (R i).c) ∧ arr[i * 5 + 3]? = some (.bool (R i).d) ∧ arr[i * 5 + 4]? = some (.bool (R i).e)) := hal
    have HB : Hid (Below w.heap.size w wr) := hbel
    clear hal hbel
    by_cases hlt : k < N
    · have g1 : (k : Int) < (N : Int) := by omega
      obtain ⟨c0, c1, c2, c3, c4⟩ := HR.out k hlt
      rw [← HB.out.cell (p := ⟨b, _, none⟩) hb] at c0 c1 c2 c3 c4
      have hbr : b < wr.heap.size := by have := HB.out.size; omega
      have hwr : w.heap.size < wr.heap.size := by
        rcases Nat.lt_or_ge w.heap.size wr.heap.size with h | h
        · exact h
        · rw [Array.getElem?_eq_none h] at harr; simp at harr
      have f0 := tab_free harr (k * 5)
      have f1 := tab_free harr (k * 5 + 1)
      have f2 := tab_free harr (k * 5 + 2)
      have f3 := tab_free harr (k * 5 + 3)
      have f4 := tab_free harr (k * 5 + 4)
      obtain ⟨v0, e0⟩ := some_at arr (k * 5) (by omega)
      obtain ⟨v1, e1⟩ := some_at arr (k * 5 + 1) (by omega)
      obtain ⟨v2, e2⟩ := some_at arr (k * 5 + 2) (by omega)
      obtain ⟨v3, e3⟩ := some_at arr (k * 5 + 3) (by omega)
      obtain ⟨v4, e4⟩ := some_at arr (k * 5 + 4) (by omega)
      rw [← tab_cell harr] at e0 e1 e2 e3 e4
      go_wp2_with fail
      refine (toRecord_any _ _ _ _ _ _).mono ?_
      rintro e w' ⟨rfl, o1, o2, rfl⟩
      go_wp2_with fail
      go_roundw
      case rel => exact ⟨k + 1, by omega, by go_num, below5 HB.out (Nat.le_refl _) (Nat.le_refl _) (Nat.le_refl _) (Nat.le_refl _) (Nat.le_refl _), tab_step harr hsz HA.out hlt o1 o2⟩
      case measure => simp [intOf]; omega
    · have hkN : k = N := by omega
      subst hkN
      go_wp2
      go_ret
      exact ⟨rfl, HB.out, arr, harr, hsz, HA.out⟩

/-- A nil slice gives a nil table. -/
theorem toTable_nil (w : World) : Calls Try.prog 10 #[.slice none 0 0] w fun e w' => e = .returned (.slice none 0 0) ∧ w' = w := by
  have hnil := fun W => Lib.run_eql_slice_nil (P := Try.prog) W 22 36 none 0 0 0 0 Try.underlying22
  go_enter Try.func10, Try.ntmps10
  go_wp2
  go_ret
  exact ⟨rfl, rfl⟩

/-- An empty slice that is not nil, whatever its address. -/
theorem toTable_empty (x : Addr) (cap : Nat) (w : World) : Calls Try.prog 10 #[.slice (some x) 0 cap] w fun e w' => e = .returned (.slice (some ⟨w.heap.size, 0, none⟩) 0 0) ∧ Below w.heap.size w w' := by
  have hmk : ∀ W : World, (Instr.makeSlice 27 (.int .i64 0) (.int .i64 0)).run Try.prog W = .ok (.slice (some ⟨W.heap.size, 0, none⟩) 0 0) (W.alloc (.cells (madeCells zero5 (0 * 5)) 31)) := fun W => make_tab 0 (by omega) W
  have hnil := fun W => Lib.run_eql_slice_nil (P := Try.prog) W 22 36 (some x) 0 cap 0 0 Try.underlying22
  go_enter Try.func10, Try.ntmps10
  go_wp2
  refine wp_loop_rounds 1 ?_
  rw [rounds_succ]
  go_wp2
  go_ret
  exact ⟨rfl, (Below.refl _ _).alloc (Nat.le_refl _) _⟩
end Go.Proofs.Qxb6601939a.Grant
