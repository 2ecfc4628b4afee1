/-
  THE WALK OF Grant (11): the earliest record with the key.
-/
import Derived.Test.Qxb6601939aGrantB
import Derived.Deep.RegionWith
namespace Go.Proofs.Qxb6601939a.Grant
open Go.RowKit

def Rc.agg (r : Rc) : Value := .agg #[.string r.a, .string r.b, .string r.c, .bool r.d, .bool r.e]
def Rc.key (r : Rc) (x y z : ByteArray) : Bool := keyB r.a r.b r.c x y z
def zeroRc : Rc := ⟨⟨#[]⟩, ⟨#[]⟩, ⟨#[]⟩, false, false⟩

/-- What Grant answers: the earliest record with the key, and true; or the zero record and false. -/
def Granted (N : Nat) (R : Nat → Rc) (x y z : ByteArray) (e : Ending) : Prop :=
  (∃ k, k < N ∧ e = .returned (.tuple #[(R k).agg, .bool true]) ∧ (R k).key x y z = true ∧ ∀ i, i < k → (R i).key x y z = false) ∨
  (e = .returned (.tuple #[zeroRc.agg, .bool false]) ∧ ∀ i, i < N → (R i).key x y z = false)

/-- No record ahead of the k-th has the key. -/
def NoneTo (k : Nat) (R : Nat → Rc) (x y z : ByteArray) : Prop := ∀ i, i < k → (R i).key x y z = false

/-- The table's cells. -/
def TabAt (w : World) (T : Nat) (R : Nat → Rc) (i : Nat) : Prop :=
  w.cell? ⟨T, i * 5, none⟩ = some (.string (R i).a) ∧ w.cell? ⟨T, i * 5 + 1, none⟩ = some (.string (R i).b) ∧ w.cell? ⟨T, i * 5 + 2, none⟩ = some (.string (R i).c) ∧
  w.cell? ⟨T, i * 5 + 3, none⟩ = some (.bool (R i).d) ∧ w.cell? ⟨T, i * 5 + 4, none⟩ = some (.bool (R i).e)

theorem granted_hit {N k : Nat} {R : Nat → Rc} {x y z : ByteArray} (hk : k < N) (e1 : (R k).a.toList = x.toList) (e2 : (R k).b.toList = y.toList) (e3 : (R k).c.toList = z.toList) (hno : NoneTo k R x y z) :
    Granted N R x y z (.returned (.tuple #[.agg #[.string (R k).a, .string (R k).b, .string (R k).c, .bool (R k).d, .bool (R k).e], .bool true])) :=
  .inl ⟨k, hk, rfl, by unfold Rc.key keyB; simp [e1, e2, e3], hno⟩

theorem none_step {k : Nat} {R : Nat → Rc} {x y z : ByteArray} (hno : NoneTo k R x y z) (h : (R k).key x y z = false) : NoneTo (k + 1) R x y z := fun i hi => by
  by_cases e : i = k
  · subst e; exact h
  · exact hno i (by omega)

theorem below3 {B : Nat} {W w : World} {o1 o2 o3 : Obj} (h : Below B W w) (hB : B ≤ w.heap.size) : Below B W (((w.alloc o1).alloc o2).alloc o3) :=
  ((h.alloc hB _).alloc (by rw [World.size_alloc]; omega) _).alloc (by rw [World.size_alloc, World.size_alloc]; omega) _

theorem below_two {w wr : World} {o1 o2 : Obj} (h : Below (w.heap.size + 2) ((w.alloc o1).alloc o2) wr) : Below w.heap.size w wr :=
  (((Below.refl _ _).alloc (Nat.le_refl _) o1).alloc (by rw [World.size_alloc]; omega) o2).trans (h.mono (by omega))

theorem below_set5 {B : Nat} {W w : World} {p0 p1 p2 p3 p4 : Addr} {v0 v1 v2 v3 v4 : Value} (h : Below B W w) (h0 : B ≤ p0.block) (h1 : B ≤ p1.block) (h2 : B ≤ p2.block) (h3 : B ≤ p3.block) (h4 : B ≤ p4.block) :
    Below B W (((((w.setCell p0 v0).setCell p1 v1).setCell p2 v2).setCell p3 v3).setCell p4 v4) :=
  ((((h.setCell h0 v0).setCell h1 v1).setCell h2 v2).setCell h3 v3).setCell h4 v4

theorem end_hit {w wr : World} {o1 o2 o3 o4 o5 : Obj} {v0 v1 v2 v3 v4 : Value} {i0 i1 i2 i3 i4 : Nat} (h : Below (w.heap.size + 2) ((w.alloc o1).alloc o2) wr) :
    Below w.heap.size w ((((((((wr.setCell ⟨w.heap.size, i0, none⟩ v0).setCell ⟨w.heap.size, i1, none⟩ v1).setCell ⟨w.heap.size, i2, none⟩ v2).setCell ⟨w.heap.size, i3, none⟩ v3).setCell ⟨w.heap.size, i4, none⟩ v4).alloc o3).alloc o4).alloc o5) := by
  have a := below_set5 (p0 := ⟨w.heap.size, i0, none⟩) (p1 := ⟨w.heap.size, i1, none⟩) (p2 := ⟨w.heap.size, i2, none⟩) (p3 := ⟨w.heap.size, i3, none⟩) (p4 := ⟨w.heap.size, i4, none⟩) (v0 := v0) (v1 := v1) (v2 := v2) (v3 := v3) (v4 := v4) (below_two h) (Nat.le_refl _) (Nat.le_refl _) (Nat.le_refl _) (Nat.le_refl _) (Nat.le_refl _)
  exact below3 a a.size

set_option maxHeartbeats 1000000 in
theorem grant_any (T N : Nat) (R : Nat → Rc) (x y z : ByteArray) (w : World) (hT : T < w.heap.size) (hN : N ≤ 65536) (hr : ∀ i, i < N → TabAt w T R i) :
    Calls Try.prog 11 #[.slice (some ⟨T, 0, none⟩) N N, .string x, .string y, .string z] w fun e w' => Granted N R x y z e ∧ Below w.heap.size w w' := by
  have HR : Hid (∀ i, i < N → TabAt w T R i) := hr
  clear hr
  go_enter Try.func11, Try.ntmps11
  go_wp2
  go_loopw [19] (fun i wr => ∃ k : Nat, k ≤ N ∧ i = .int .i64 (k : Int) ∧ Below (w.heap.size + 2) ((w.alloc (.cells #[.string ⟨#[]⟩, .string ⟨#[]⟩, .string ⟨#[]⟩, .bool false, .bool false] 31)).alloc (.cells #[.string x, .string y, .string z] 51)) wr ∧ NoneTo k R x y z) (fun i _ => N - (intOf i).toNat)
  case atStart => exact ⟨0, Nat.zero_le _, rfl, Below.refl _ _, fun i hi => absurd hi (Nat.not_lt_zero i)⟩
  case round =>
    obtain ⟨k, hk, rfl, hb, hno⟩ := hrel
    have HB : Hid (Below (w.heap.size + 2) ((w.alloc (.cells #[.string ⟨#[]⟩, .string ⟨#[]⟩, .string ⟨#[]⟩, .bool false, .bool false] 31)).alloc (.cells #[.string x, .string y, .string z] 51)) wr) := hb
    have HNo : Hid (NoneTo k R x y z) := hno
    have hsz : w.heap.size + 2 ≤ wr.heap.size := by have := hb.size; simp only [World.size_alloc] at this; omega
    have q0 : wr.cell? ⟨w.heap.size + 1, 0, none⟩ = some (.string x) := by rw [hb.cell (p := ⟨w.heap.size + 1, 0, none⟩) (by simp)]; simp
    have q1 : wr.cell? ⟨w.heap.size + 1, 1, none⟩ = some (.string y) := by rw [hb.cell (p := ⟨w.heap.size + 1, 1, none⟩) (by simp)]; simp
    have q2 : wr.cell? ⟨w.heap.size + 1, 2, none⟩ = some (.string z) := by rw [hb.cell (p := ⟨w.heap.size + 1, 2, none⟩) (by simp)]; simp
    have r0 : wr.cell? ⟨w.heap.size, 0, none⟩ = some (.string ⟨#[]⟩) := by rw [hb.cell (p := ⟨w.heap.size, 0, none⟩) (by simp)]; simp
    have r1 : wr.cell? ⟨w.heap.size, 1, none⟩ = some (.string ⟨#[]⟩) := by rw [hb.cell (p := ⟨w.heap.size, 1, none⟩) (by simp)]; simp
    have r2 : wr.cell? ⟨w.heap.size, 2, none⟩ = some (.string ⟨#[]⟩) := by rw [hb.cell (p := ⟨w.heap.size, 2, none⟩) (by simp)]; simp
    have r3 : wr.cell? ⟨w.heap.size, 3, none⟩ = some (.bool false) := by rw [hb.cell (p := ⟨w.heap.size, 3, none⟩) (by simp)]; simp
    have r4 : wr.cell? ⟨w.heap.size, 4, none⟩ = some (.bool false) := by rw [hb.cell (p := ⟨w.heap.size, 4, none⟩) (by simp)]; simp
    have fz : ∀ j, wr.frozen? ⟨w.heap.size, j, none⟩ = false := fun j => by rw [hb.frozen (p := ⟨w.heap.size, j, none⟩) (by simp)]; simp
    have f0 := fz 0
    have f1 := fz 1
    have f2 := fz 2
    have f3 := fz 3
    have f4 := fz 4
    clear hb hno fz
    by_cases hlt : k < N
    · have g1 : (k : Int) < (N : Int) := by omega
      have hold : ∀ m, wr.cell? ⟨T, m, none⟩ = w.cell? ⟨T, m, none⟩ := fun m => by
        rw [HB.out.cell (p := ⟨T, m, none⟩) (by show T < _; omega)]
        rw [World.cell?_alloc_lt _ _ _ (by show T < _; simp only [World.size_alloc]; omega), World.cell?_alloc_lt _ _ _ hT]
      obtain ⟨c0, c1, c2, c3, c4⟩ := HR.out k hlt
      rw [← hold] at c0 c1 c2 c3 c4
      clear hold
      have hTr : T < wr.heap.size := by omega
      have hq : w.heap.size + 1 < wr.heap.size := by omega
      have hq0 : w.heap.size < wr.heap.size := by omega
      have hq1 : w.heap.size < wr.heap.size + 1 := by omega
      have hq2 : w.heap.size < wr.heap.size + 1 + 1 := by omega
      have hq3 : w.heap.size + 1 < wr.heap.size + 1 := by omega
      have hq4 : w.heap.size + 1 < wr.heap.size + 1 + 1 := by omega
      rcases (show ((R k).a.toList = x.toList ∧ (R k).b.toList = y.toList ∧ (R k).c.toList = z.toList) ∨ (¬ (R k).a.toList = x.toList) ∨ ((R k).a.toList = x.toList ∧ ¬ (R k).b.toList = y.toList) ∨ ((R k).a.toList = x.toList ∧ (R k).b.toList = y.toList ∧ ¬ (R k).c.toList = z.toList) from by
        by_cases e1 : (R k).a.toList = x.toList <;> by_cases e2 : (R k).b.toList = y.toList <;> by_cases e3 : (R k).c.toList = z.toList <;> simp [e1, e2, e3]) with ⟨e1, e2, e3⟩ | e1 | ⟨e1, e2⟩ | ⟨e1, e2, e3⟩
      · go_wp2_with fail
        go_region_with (go_at_call 21; refine (key_any _ _ _ _ _ _).mono ?_; rintro e w' ⟨rfl, o1, o2, rfl⟩)
        all_goals go_wp2_with fail
        all_goals
          exact bodyPost_ret (v := .tuple #[.agg #[.string (R k).a, .string (R k).b, .string (R k).c, .bool (R k).d, .bool (R k).e], .bool true]) (by simp [results, Try.results11, go_sem, hq0, hq1, hq2, r0, r1, r2, r3, r4]) rfl
            ⟨granted_hit hlt e1 e2 e3 HNo.out, (end_hit HB.out).drew⟩
      · go_wp2_with fail
        go_region_with (go_at_call 21; refine (key_any _ _ _ _ _ _).mono ?_; rintro e w' ⟨rfl, o1, o2, rfl⟩)
        all_goals go_wp2_with fail
        all_goals
          go_roundw
          case rel => exact ⟨k + 1, by omega, by go_num, (below3 HB.out hsz).drew, none_step HNo.out (by unfold Rc.key keyB; simp [e1])⟩
          case measure => simp [intOf]; omega
      · go_wp2_with fail
        go_region_with (go_at_call 21; refine (key_any _ _ _ _ _ _).mono ?_; rintro e w' ⟨rfl, o1, o2, rfl⟩)
        all_goals go_wp2_with fail
        all_goals
          go_roundw
          case rel => exact ⟨k + 1, by omega, by go_num, (below3 HB.out hsz).drew, none_step HNo.out (by unfold Rc.key keyB; simp [e1, e2])⟩
          case measure => simp [intOf]; omega
      · go_wp2_with fail
        go_region_with (go_at_call 21; refine (key_any _ _ _ _ _ _).mono ?_; rintro e w' ⟨rfl, o1, o2, rfl⟩)
        all_goals go_wp2_with fail
        all_goals
          go_roundw
          case rel => exact ⟨k + 1, by omega, by go_num, (below3 HB.out hsz).drew, none_step HNo.out (by unfold Rc.key keyB; simp [e1, e2, e3])⟩
          case measure => simp [intOf]; omega
    · have hq0 : w.heap.size < wr.heap.size := by omega
      have hkN : k = N := by omega
      have HNo' : Hid (NoneTo N R x y z) := by rw [← hkN]; exact HNo
      clear hkN
      go_wp2
      exact bodyPost_ret (v := .tuple #[.agg #[.string ⟨#[]⟩, .string ⟨#[]⟩, .string ⟨#[]⟩, .bool false, .bool false], .bool false]) (by simp [results, Try.results11, go_sem, r0, r1, r2, r3, r4]) rfl
        ⟨.inr ⟨rfl, HNo'.out⟩, below_set5 (below_two HB.out) (Nat.le_refl _) (Nat.le_refl _) (Nat.le_refl _) (Nat.le_refl _) (Nat.le_refl _)⟩

/-- The empty table, whatever its address. -/
theorem grant_none (ao : Option Addr) (cap : Nat) (R : Nat → Rc) (x y z : ByteArray) (w : World) :
    Calls Try.prog 11 #[.slice ao 0 cap, .string x, .string y, .string z] w fun e w' => Granted 0 R x y z e ∧ Below w.heap.size w w' := by
  go_enter Try.func11, Try.ntmps11
  go_wp2
  refine wp_loop_rounds 1 ?_
  rw [rounds_succ]
  go_wp2
  exact bodyPost_ret (v := .tuple #[.agg #[.string ⟨#[]⟩, .string ⟨#[]⟩, .string ⟨#[]⟩, .bool false, .bool false], .bool false]) (by simp [results, Try.results11, go_sem]) rfl
    ⟨.inr ⟨rfl, fun i hi => absurd hi (Nat.not_lt_zero i)⟩, ((Below.refl _ _).alloc (Nat.le_refl _) _).alloc (by rw [World.size_alloc]; omega) _⟩
end Go.Proofs.Qxb6601939a.Grant
