/-
  THE WALK OF 'base26Value' (7): Horner's rule without overflow.
-/
import Derived.Test.Qxb6601871aLetters
namespace Go.Proofs.Qxb6601871a.Letters
open Go.RowKit Pl

set_option maxHeartbeats 400000 in
theorem value_any (s : ByteArray) (l : List Nat) (hl : s.size = l.length) (hb : ∀ k (h : k < s.size) (h' : k < l.length), s[k].toNat = l[k]) (hr : ∀ c ∈ l, 97 ≤ c ∧ c ≤ 122) (hv : val l < 18446744073709551616) (hm : l.length ≤ 14) (w : World) :
    Calls Try.prog 7 #[.string s] w fun e w' => e = .returned (.tuple #[.int .u64 (val l : Int), .bool true]) ∧ w' = w := by
  have hsz : s.size ≤ 14 := by omega
  have HL : Hid (s.size = l.length) := hl
  have HB : Hid (∀ k (h : k < s.size) (h' : k < l.length), s[k].toNat = l[k]) := hb
  have HR : Hid (∀ c ∈ l, 97 ≤ c ∧ c ≤ 122) := hr
  clear hl hb hr
  go_enter Try.func7, Try.ntmps7
  go_wp2
  go_loop [4, 5] (fun v i => ∃ k : Nat, k ≤ s.size ∧ i = .int .i64 (k : Int) ∧ v = .int .u64 (val (l.take k) : Int)) (fun _ i => s.size - (intOf i).toNat)
  case atStart => exact ⟨0, Nat.zero_le _, rfl, rfl⟩
  case round =>
    obtain ⟨k, hk, rfl, rfl⟩ := hrel
    by_cases hlt : k < s.size
    · have hkl : k < l.length := by have := HL.out; omega
      have hc := HR.out l[k] (List.getElem_mem hkl)
      have e1 := HB.out k hlt hkl
      have e2 := val_take_succ l k hkl
      have e3 := val_take_le l (k + 1)
      have HE : Hid ((val (l.take (k + 1)) : Int) = (val (l.take k) : Int) * 26 + ((s[k].toNat : Int) - 97)) := by
        show _ = _
        omega
      have b1 : 97 ≤ (s[k].toNat : Int) := by omega
      have b2 : (s[k].toNat : Int) ≤ 122 := by omega
      have b3 : (val (l.take k) : Int) * 26 + ((s[k].toNat : Int) - 97) ≤ 18446744073709551615 := by omega
      clear e1 e2 e3 hc
      go_wp2
      go_round
      case rel => exact ⟨k + 1, by omega, by go_num, by rw [HE.out]⟩
      case measure => simp [intOf]; omega
    · have hkk : k = l.length := by have := HL.out; omega
      have HE : Hid (val (l.take k) = val l) := by
        show _ = _
        rw [hkk, List.take_length]
      clear hkk
      go_wp2
      go_ret2
      exact ⟨ret_val HE.out, rfl⟩
end Go.Proofs.Qxb6601871a.Letters
