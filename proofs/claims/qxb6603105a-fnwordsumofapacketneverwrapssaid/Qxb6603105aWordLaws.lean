/-
  THE WALKS OF FnWordSumIsByteParityClosedForm (3) AND FnWordSumOfAPacketNeverWraps (5).
-/
import Derived.Test.Qxb6603105aSums
namespace Go.Proofs.Qxb6603105a.Word
open Go.RowKit Pl

theorem zzSum_any (s B N : Nat) (L : List Nat) (w : World) (hs : s < 4294967296) (hL : N = L.length) (hc : ∀ i (h : i < L.length), w.cell? ⟨B, i, none⟩ = some (.int .u8 (L[i] : Int))) (hu : ∀ c ∈ L, c ≤ 255) :
    Calls Try.prog 10 #[.int .u32 (s : Int), .slice (some ⟨B, 0, none⟩) N N] w fun e w' => e = .returned (.int .u32 (((s + wS L) % 4294967296 : Nat) : Int)) ∧ ∃ q, w' = w.drewN q := by
  have h := wordSum_any s B N L w hs hL hc hu
  clear hL hc hu
  go_enter Try.func10, Try.ntmps10
  go_wp2_with fail
  refine h.mono ?_
  rintro e w' ⟨rfl, q, rfl⟩
  go_wp2_with fail
  go_ret
  exact ⟨rfl, q, rfl⟩

theorem zzSum_none (s : Nat) (ao : Option Addr) (cap : Nat) (w : World) :
    Calls Try.prog 10 #[.int .u32 (s : Int), .slice ao 0 cap] w fun e w' => e = .returned (.int .u32 (s : Int)) ∧ w' = w := by
  have h := wordSum_none s ao cap w
  go_enter Try.func10, Try.ntmps10
  go_wp2_with fail
  refine h.mono ?_
  rintro e w' ⟨rfl, rfl⟩
  go_wp2_with fail
  go_ret
  exact ⟨rfl, rfl⟩

/-- A copy of the empty slice. -/
theorem clone_none (ao : Option Addr) (cap : Nat) (hn : ao = none → cap = 0) (w : World) :
    Calls Try.prog 8 #[.slice ao 0 cap] w fun e w' => (∃ to, e = .returned (.slice to 0 0)) ∧ Below w.heap.size w w' := by
  cases ao with
  | none =>
    obtain rfl := hn rfl
    exact (clone_nil w).mono fun e w' h => ⟨⟨_, h.1⟩, by rw [h.2]; exact Below.refl _ _⟩
  | some a => exact (clone_empty a cap w).mono fun e w' h => ⟨⟨_, h.1⟩, by obtain ⟨o, ho⟩ := h.2; rw [ho]; exact (Below.refl _ _).alloc (Nat.le_refl _) _⟩

theorem below_drewN {B : Nat} {a w : World} (h : Below B a w) (q : Nat) : Below B a (w.drewN q) := ⟨h.os, h.tape, h.output, h.size, h.block⟩

theorem ret_true {p : Bool} (h : p = true) : Ending.returned (.bool p) = .returned (.bool true) := by rw [h]

/-- The cells of a new row. -/
theorem row_cells (L : List Nat) (w : World) (i : Nat) (h : i < L.length) : (w.alloc (.cells (brow L) 5)).cell? ⟨w.heap.size, i, none⟩ = some (.int .u8 (L[i] : Int)) := by
  rw [World.cell?_alloc_new]
  exact brow_at L i h

theorem bytes7_ok (v : Value) (ao : Option Addr) (N cap : Nat) (w : World) (h : N ≤ 1048576) : Calls Try.prog 7 #[v, .slice ao N cap] w fun e w' => e = .returned (.bool true) ∧ w' = w := by
  have h1 : (N : Int) ≤ 1048576 := by omega
  go_enter Try.func7, Try.ntmps7
  go_wp2
  go_ret
  exact ⟨rfl, rfl⟩

theorem bytes7_bad (v : Value) (ao : Option Addr) (N cap : Nat) (w : World) (h : 1048576 < N) : Calls Try.prog 7 #[v, .slice ao N cap] w fun e w' => e = .returned (.bool false) ∧ w' = w := by
  have h1 : 1048576 < (N : Int) := by omega
  go_enter Try.func7, Try.ntmps7
  go_wp2
  go_ret
  exact ⟨rfl, rfl⟩

set_option maxHeartbeats 400000 in
theorem law3_some (s b off N cap : Nat) (L : List Nat) (w : World) (hs : s < 4294967296) (hL : N = L.length) (hb : b < w.heap.size) (hc : ∀ i (h : i < L.length), w.cell? ⟨b, off + i, none⟩ = some (.int .u8 (L[i] : Int))) (hu : ∀ c ∈ L, c ≤ 255) :
    Calls Try.prog 3 #[.int .u32 (s : Int), .slice (some ⟨b, off, none⟩) N cap] w fun e w' => e = .returned (.bool true) ∧ Below w.heap.size w w' := by
  by_cases hN : N ≤ 1048576
  · have HC : Hid (∀ i (h : i < L.length), w.cell? ⟨b, off + i, none⟩ = some (.int .u8 (L[i] : Int))) := hc
    have HL : Hid (N = L.length) := hL
    have HU : Hid (∀ c ∈ L, c ≤ 255) := hu
    obtain ⟨b1, b2⟩ := take_sums L hu (by omega) L.length
    rw [List.take_length] at b1 b2
    have e := wS_eq L
    obtain ⟨W, hW⟩ : ∃ W, W = wS L := ⟨_, rfl⟩
    obtain ⟨E, hE⟩ : ∃ E, E = evS L := ⟨_, rfl⟩
    obtain ⟨O, hO⟩ : ∃ O, O = odS L := ⟨_, rfl⟩
    rw [← hW, ← hE, ← hO] at e
    rw [← hE] at b1
    rw [← hO] at b2
    have HE : Hid (W = E * 256 + O) := e
    have HK : Hid (W = wS L ∧ E = evS L ∧ O = odS L) := ⟨hW, hE, hO⟩
    clear hc hL hu e hW hE hO
    go_enter Try.func3, Try.ntmps3
    go_wp2_with fail
    refine (bytes7_ok _ _ _ _ _ hN).mono ?_
    rintro e w ⟨rfl, rfl⟩
    go_wp2_with fail
    refine (clone_any b off N cap L w hN HL.out hb HC.out).mono ?_
    rintro e w' ⟨rfl, rfl⟩
    go_wp2_with fail
    refine (parity_any w.heap.size N N L _ hN HL.out (row_cells L w) HU.out).mono ?_
    rintro e w' ⟨rfl, rfl⟩
    rw [← HK.out.2.1, ← HK.out.2.2]
    go_wp2_with fail
    refine (zzSum_any s w.heap.size N L _ hs HL.out (row_cells L w) HU.out).mono ?_
    rintro e w' ⟨rfl, q, rfl⟩
    rw [← HK.out.1]
    go_wp2_with fail
    go_ret
    exact ⟨ret_true (by rw [beq_iff_eq]; have := HE.out; omega), below_drewN ((Below.refl _ _).alloc (Nat.le_refl _) _) q⟩
  · clear hL hc hu
    go_enter Try.func3, Try.ntmps3
    go_wp2_with (go_at_call 7; refine (bytes7_bad _ _ _ _ _ (by omega)).mono ?_; rintro e w ⟨rfl, rfl⟩)
    go_ret
    exact ⟨rfl, Below.refl _ _⟩

theorem law3_none (s : Nat) (ao : Option Addr) (cap : Nat) (hn : ao = none → cap = 0) (w : World) (hs : s < 4294967296) :
    Calls Try.prog 3 #[.int .u32 (s : Int), .slice ao 0 cap] w fun e w' => e = .returned (.bool true) ∧ Below w.heap.size w w' := by
  have HN : Hid (ao = none → cap = 0) := hn
  clear hn
  go_enter Try.func3, Try.ntmps3
  go_wp2_with fail
  refine (bytes7_ok _ _ _ _ _ (by omega)).mono ?_
  rintro e w ⟨rfl, rfl⟩
  go_wp2_with fail
  refine (clone_none ao cap HN.out w).mono ?_
  rintro e w1 ⟨⟨to, rfl⟩, hb⟩
  have HB : Hid (Below w.heap.size w w1) := hb
  clear hb
  go_wp2_with fail
  refine (parity_none to 0 w1).mono ?_
  rintro e w1 ⟨rfl, rfl⟩
  go_wp2_with fail
  refine (zzSum_none s to 0 w1).mono ?_
  rintro e w1 ⟨rfl, rfl⟩
  go_wp2_with fail
  go_ret
  exact ⟨ret_true (by first | rfl | (rw [beq_iff_eq]; omega)), HB.out⟩

theorem bytes12_ok (ao : Option Addr) (N cap : Nat) (w : World) (h : N ≤ 1048576) : Calls Try.prog 12 #[.slice ao N cap] w fun e w' => e = .returned (.bool true) ∧ w' = w := by
  have h1 : (N : Int) ≤ 1048576 := by omega
  go_enter Try.func12, Try.ntmps12
  go_wp2
  go_ret
  exact ⟨rfl, rfl⟩

theorem bytes12_bad (ao : Option Addr) (N cap : Nat) (w : World) (h : 1048576 < N) : Calls Try.prog 12 #[.slice ao N cap] w fun e w' => e = .returned (.bool false) ∧ w' = w := by
  have h1 : 1048576 < (N : Int) := by omega
  go_enter Try.func12, Try.ntmps12
  go_wp2
  go_ret
  exact ⟨rfl, rfl⟩

set_option maxHeartbeats 400000 in
theorem law5_some (b off N cap : Nat) (L : List Nat) (w : World) (hm : N ≤ maxLen) (hL : N = L.length) (hb : b < w.heap.size) (hc : ∀ i (h : i < L.length), w.cell? ⟨b, off + i, none⟩ = some (.int .u8 (L[i] : Int))) (hu : ∀ c ∈ L, c ≤ 255) :
    Calls Try.prog 5 #[.slice (some ⟨b, off, none⟩) N cap] w fun e w' => e = .returned (.bool true) ∧ Below w.heap.size w w' := by
  unfold maxLen at hm
  by_cases hN : N ≤ 131072
  · have HC : Hid (∀ i (h : i < L.length), w.cell? ⟨b, off + i, none⟩ = some (.int .u8 (L[i] : Int))) := hc
    have HL : Hid (N = L.length) := hL
    have HU : Hid (∀ c ∈ L, c ≤ 255) := hu
    have b3 := (sums_le L hu).2.2
    obtain ⟨b1, b2⟩ := take_sums L hu (by omega) L.length
    rw [List.take_length] at b1 b2
    rw [← hL] at b3
    have e := wS_eq L
    obtain ⟨W, hW⟩ : ∃ W, W = wS L := ⟨_, rfl⟩
    obtain ⟨E, hE⟩ : ∃ E, E = evS L := ⟨_, rfl⟩
    obtain ⟨O, hO⟩ : ∃ O, O = odS L := ⟨_, rfl⟩
    rw [← hW, ← hE, ← hO] at e
    rw [← hE] at b1
    rw [← hO] at b2
    rw [← hW] at b3
    have b4 : W < 4294967296 := by omega
    have HK : Hid ((0 + wS L) % 4294967296 = W ∧ E = evS L ∧ O = odS L) := ⟨by omega, hE, hO⟩
    have hd1 : ((W : Int) == (E : Int) * 256 + (O : Int)) = true := by rw [beq_iff_eq]; omega
    have hd2 : (W : Int) ≤ 65535 * (((N : Int) + 1) / 2) := by omega
    clear hc hL hu e hW hE hO
    go_enter Try.func5, Try.ntmps5
    go_wp2_with fail
    refine (bytes12_ok _ _ _ _ (by omega)).mono ?_
    rintro e w ⟨rfl, rfl⟩
    go_wp2_with fail
    refine (clone_any b off N cap L w (by omega) HL.out hb HC.out).mono ?_
    rintro e w' ⟨rfl, rfl⟩
    go_wp2_with fail
    refine (parity_any w.heap.size N N L _ (by omega) HL.out (row_cells L w) HU.out).mono ?_
    rintro e w' ⟨rfl, rfl⟩
    rw [← HK.out.2.1, ← HK.out.2.2]
    go_wp2_with fail
    refine (zzSum_any 0 w.heap.size N L _ (by omega) HL.out (row_cells L w) HU.out).mono ?_
    rintro e w' ⟨rfl, q, rfl⟩
    rw [HK.out.1]
    go_wp2_with fail
    go_ret
    exact ⟨rfl, below_drewN ((Below.refl _ _).alloc (Nat.le_refl _) _) q⟩
  · clear hL hc hu
    by_cases hN2 : N ≤ 1048576
    · have h2 : 131072 < (N : Int) := by omega
      go_enter Try.func5, Try.ntmps5
      go_wp2_with (go_at_call 12; refine (bytes12_ok _ _ _ _ hN2).mono ?_; rintro e w ⟨rfl, rfl⟩)
      go_ret
      exact ⟨rfl, Below.refl _ _⟩
    · go_enter Try.func5, Try.ntmps5
      go_wp2_with (go_at_call 12; refine (bytes12_bad _ _ _ _ (by omega)).mono ?_; rintro e w ⟨rfl, rfl⟩)
      go_ret
      exact ⟨rfl, Below.refl _ _⟩

theorem law5_none (ao : Option Addr) (cap : Nat) (hn : ao = none → cap = 0) (w : World) :
    Calls Try.prog 5 #[.slice ao 0 cap] w fun e w' => e = .returned (.bool true) ∧ Below w.heap.size w w' := by
  have HN : Hid (ao = none → cap = 0) := hn
  clear hn
  go_enter Try.func5, Try.ntmps5
  go_wp2_with fail
  refine (bytes12_ok _ _ _ _ (by omega)).mono ?_
  rintro e w ⟨rfl, rfl⟩
  go_wp2_with fail
  refine (clone_none ao cap HN.out w).mono ?_
  rintro e w1 ⟨⟨to, rfl⟩, hb⟩
  have HB : Hid (Below w.heap.size w w1) := hb
  clear hb
  go_wp2_with fail
  refine (parity_none to 0 w1).mono ?_
  rintro e w1 ⟨rfl, rfl⟩
  go_wp2_with fail
  refine (zzSum_none 0 to 0 w1).mono ?_
  rintro e w1 ⟨rfl, rfl⟩
  go_wp2_with fail
  go_ret
  exact ⟨rfl, HB.out⟩
end Go.Proofs.Qxb6603105a.Word
