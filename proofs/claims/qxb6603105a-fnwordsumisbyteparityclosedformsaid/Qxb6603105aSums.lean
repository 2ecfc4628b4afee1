/-
  THE WALKS OF zzParitySums (9) AND wordSum (16).
-/
import Derived.Test.Qxb6603105aClone
import Derived.Deep.QuietTactic
import Derived.BigQuiet
import Derived.Laws.BitsLemmas

namespace Go.Proofs.Qxb6603105a.Word
open Go.RowKit Pl

theorem ret_two {a b c d : Nat} (h : a = b) (k : c = d) : Ending.returned (.tuple #[.int .u64 (a : Int), .int .u64 (c : Int)]) = .returned (.tuple #[.int .u64 (b : Int), .int .u64 (d : Int)]) := by rw [h, k]

set_option maxHeartbeats 400000 in
theorem parity_any (B N cap : Nat) (L : List Nat) (w : World) (hN : N ≤ 1048576) (hL : N = L.length) (hc : ∀ i (h : i < L.length), w.cell? ⟨B, i, none⟩ = some (.int .u8 (L[i] : Int))) (hu : ∀ c ∈ L, c ≤ 255) :
    Calls Try.prog 9 #[.slice (some ⟨B, 0, none⟩) N cap] w fun e w' => e = .returned (.tuple #[.int .u64 (evS L : Int), .int .u64 (odS L : Int)]) ∧ w' = w := by
  have HC : Hid (∀ i (h : i < L.length), w.cell? ⟨B, i, none⟩ = some (.int .u8 (L[i] : Int))) := hc
  have HL : Hid (N = L.length) := hL
  have HU : Hid (∀ c ∈ L, c ≤ 255) := hu
  clear hc hL hu
  go_enter Try.func9, Try.ntmps9
  go_wp2
  go_loop [4, 5, 6] (fun ev od i => ∃ k : Nat, k ≤ N ∧ i = .int .i64 (k : Int) ∧ ev = .int .u64 (evS (L.take k) : Int) ∧ od = .int .u64 (odS (L.take k) : Int)) (fun _ _ i => N - (intOf i).toNat)
  case atStart => exact ⟨0, Nat.zero_le _, rfl, rfl, rfl⟩
  case round =>
    obtain ⟨k, hk, rfl, rfl, rfl⟩ := hrel
    by_cases hlt : k < N
    · have g1 : (k : Int) < (N : Int) := by omega
      have hkl : k < L.length := by have := HL.out; omega
      have hc := HC.out k hkl
      have hd := HU.out _ (List.getElem_mem hkl)
      obtain ⟨b1, b2⟩ := take_sums L HU.out (by have := HL.out; omega) k
      have e1 := ev_take L k hkl
      have e2 := od_take L k hkl
      obtain ⟨d, hdd⟩ : ∃ d : Nat, d = L[k] := ⟨_, rfl⟩
      rw [← hdd] at hc hd e1 e2
      have E1 : Hid (evS (L.take (k + 1)) = evS (L.take k) + if k % 2 = 0 then d else 0) := e1
      have E2 : Hid (odS (L.take (k + 1)) = odS (L.take k) + if k % 2 = 0 then 0 else d) := e2
      clear e1 e2 hdd hkl
      by_cases hp : k % 2 = 0
      · have hpb : ((k : Int) % 2 == 0) = true := by simp; omega
        go_wp2
        go_round
        case rel => exact ⟨k + 1, by omega, by go_num, by rw [E1.out, if_pos hp]; go_num, by rw [E2.out, if_pos hp]; rfl⟩
        case measure => simp [intOf]; omega
      · have hpb : ((k : Int) % 2 == 0) = false := by simp; omega
        go_wp2
        go_round
        case rel => exact ⟨k + 1, by omega, by go_num, by rw [E1.out, if_neg hp]; rfl, by rw [E2.out, if_neg hp]; go_num⟩
        case measure => simp [intOf]; omega
    · have hkk : L.take k = L := List.take_of_length_le (by have := HL.out; omega)
      have HE : Hid (evS (L.take k) = evS L ∧ odS (L.take k) = odS L) := by rw [hkk]; exact ⟨rfl, rfl⟩
      clear hkk
      go_wp2
      go_ret2
      exact ⟨ret_two HE.out.1 HE.out.2, rfl⟩

/-- The empty slice, whatever its address. -/
theorem parity_none (ao : Option Addr) (cap : Nat) (w : World) :
    Calls Try.prog 9 #[.slice ao 0 cap] w fun e w' => e = .returned (.tuple #[.int .u64 0, .int .u64 0]) ∧ w' = w := by
  go_enter Try.func9, Try.ntmps9
  go_wp2
  refine wp_loop_rounds 1 ?_
  rw [rounds_succ]
  go_wp2
  go_ret2
  exact ⟨rfl, rfl⟩

theorem wraps_u32 (n : Int) (h₀ : 0 ≤ n) (h₁ : n < 2 ^ 32) : IntKind.u32.wrap n = n := by
  simp [IntKind.wrap, IntKind.bits, IntKind.signed]
  omega

/-- Two bytes make a word. -/
theorem or_word (x y : Nat) (hx : x ≤ 255) (hy : y ≤ 255) : bits .or .u32 ((x : Int) * 256) (y : Int) = (x : Int) * 256 + (y : Int) :=
  bits_join .u32 32 (by decide) wraps_u32 8 _ _ (by omega) (by omega) (by omega) (by omega) (by omega) (by omega)

theorem ret_sum {t x m : Nat} (h : (t + x * 256) % 4294967296 = m % 4294967296) : Ending.returned (.int .u32 (((t : Int) + (x : Int) * 256) % 4294967296)) = .returned (.int .u32 ((m % 4294967296 : Nat) : Int)) := by
  rw [← h]
  congr 2

/-- A slice's length. -/
def lenOf : Value → Nat | .slice _ n _ => n | _ => 0

set_option maxHeartbeats 400000 in
theorem wordSum_any (s B N : Nat) (L : List Nat) (w : World) (hs : s < 4294967296) (hL : N = L.length) (hc : ∀ i (h : i < L.length), w.cell? ⟨B, i, none⟩ = some (.int .u8 (L[i] : Int))) (hu : ∀ c ∈ L, c ≤ 255) :
    Calls Try.prog 16 #[.int .u32 (s : Int), .slice (some ⟨B, 0, none⟩) N N] w fun e w' => e = .returned (.int .u32 (((s + wS L) % 4294967296 : Nat) : Int)) ∧ ∃ q, w' = w.drewN q := by
  have HC : Hid (∀ i (h : i < L.length), w.cell? ⟨B, i, none⟩ = some (.int .u8 (L[i] : Int))) := hc
  have HL : Hid (N = L.length) := hL
  have HU : Hid (∀ c ∈ L, c ≤ 255) := hu
  clear hc hL hu
  go_enter Try.func16, Try.ntmps16
  go_wp2
  go_loopw [0, 1] (fun sv bv wr => ∃ (k t q : Nat) (ad : Addr), k ≤ N ∧ t < 4294967296 ∧ sv = .int .u32 (t : Int) ∧ bv = .slice (some ad) (N - k) (N - k) ∧ (0 < N - k → ad = ⟨B, k, none⟩) ∧ wr = w.drewN q ∧ (t + wS (L.drop k)) % 4294967296 = (s + wS L) % 4294967296) (fun _ b _ => lenOf b)
  case atStart => exact ⟨0, s, 0, _, Nat.zero_le _, hs, rfl, rfl, fun _ => rfl, rfl, rfl⟩
  case round =>
    obtain ⟨k, t, q, ad, hk, ht, rfl, rfl, had, rfl, hinv⟩ := hrel
    have HI : Hid ((t + wS (L.drop k)) % 4294967296 = (s + wS L) % 4294967296) := hinv
    clear hinv
    by_cases h2 : 2 ≤ N - k
    · obtain rfl := had (by omega)
      clear had
      have h2i : (2 : Int) ≤ ((N - k : Nat) : Int) := by omega
      have h1i : (1 : Int) < ((N - k : Nat) : Int) := by omega
      have h0i : (0 : Int) < ((N - k : Nat) : Int) := by omega
      have hk0 : k < L.length := by have := HL.out; omega
      have hk1 : k + 1 < L.length := by have := HL.out; omega
      have c0 := HC.out k hk0
      have c1 := HC.out (k + 1) hk1
      have d0 := HU.out _ (List.getElem_mem hk0)
      have d1 := HU.out _ (List.getElem_mem hk1)
      obtain ⟨x, hx⟩ : ∃ x : Nat, x = L[k] := ⟨_, rfl⟩
      obtain ⟨y, hy⟩ : ∃ x : Nat, x = L[k + 1] := ⟨_, rfl⟩
      rw [← hx] at c0 d0
      rw [← hy] at c1 d1
      have hor := or_word x y d0 d1
      have HW : Hid (wS (L.drop k) = x * 256 + y + wS (L.drop (k + 2))) := by
        have := wS_drop L k hk1
        rw [← hx, ← hy] at this
        exact this
      clear hx hy hk0 hk1
      have HT : Hid (((t + (x * 256 + y)) % 4294967296 + wS (L.drop (k + 2))) % 4294967296 = (s + wS L) % 4294967296) := by
        have e1 := HI.out
        have e2 := HW.out
        show _ = _
        omega
      have HV : Hid (Value.int .u32 (((t : Int) + ((x : Int) * 256 + (y : Int))) % 4294967296) = Value.int .u32 (((t + (x * 256 + y)) % 4294967296 : Nat) : Int)) := by
        show _ = _
        congr 1
      by_cases h3 : N - k = 2
      · go_wp2_with fail
        go_quiet (fail)
        go_wp2_with fail
        go_roundw
        case rel => exact ⟨k + 2, (t + (x * 256 + y)) % 4294967296, _, ⟨B, k, none⟩, by omega, Nat.mod_lt _ (by omega), HV.out, by rw [show N - (k + 2) = 0 by omega], fun h => by omega, rfl, HT.out⟩
        case measure => simp only [lenOf]; omega
      · go_wp2_with fail
        go_quiet (fail)
        go_wp2_with fail
        go_roundw
        case rel => exact ⟨k + 2, (t + (x * 256 + y)) % 4294967296, _, ⟨B, k + 2, none⟩, by omega, Nat.mod_lt _ (by omega), HV.out, by rw [show N - (k + 2) = N - k - 2 by omega], fun _ => rfl, rfl, HT.out⟩
        case measure => simp only [lenOf]; omega
    · by_cases h1 : N - k = 1
      · obtain rfl := had (by omega)
        clear had
        have hk0 : k < L.length := by have := HL.out; omega
        have c0 := HC.out k hk0
        have d0 := HU.out _ (List.getElem_mem hk0)
        obtain ⟨x, hx⟩ : ∃ x : Nat, x = L[k] := ⟨_, rfl⟩
        rw [← hx] at c0 d0
        have HW : Hid ((t + x * 256) % 4294967296 = (s + wS L) % 4294967296) := by
          have e := wS_drop1 L k (by have := HL.out; omega)
          rw [← hx] at e
          have e2 := HI.out
          rw [e] at e2
          exact e2
        clear hx hk0 h2
        go_wp2_with fail
        go_ret
        exact ⟨ret_sum HW.out, _, rfl⟩
      · have h0 : N - k = 0 := by omega
        have HW : Hid (t = (s + wS L) % 4294967296) := by
          have e := wS_drop0 L k (by have := HL.out; omega)
          have e2 := HI.out
          rw [e] at e2
          show _ = _
          omega
        clear had h2 h1
        go_wp2_with fail
        go_ret
        exact ⟨by rw [← HW.out]; rfl, _, rfl⟩

/-- The empty slice, whatever its address. -/
theorem wordSum_none (s : Nat) (ao : Option Addr) (cap : Nat) (w : World) :
    Calls Try.prog 16 #[.int .u32 (s : Int), .slice ao 0 cap] w fun e w' => e = .returned (.int .u32 (s : Int)) ∧ w' = w := by
  go_enter Try.func16, Try.ntmps16
  go_wp2
  refine wp_loop_rounds 1 ?_
  rw [rounds_succ]
  go_wp2
  go_ret
  exact ⟨rfl, rfl⟩
end Go.Proofs.Qxb6603105a.Word
