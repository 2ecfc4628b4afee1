/-
  THE WALK OF FnSeqLenAgreesWithHeldSegmentEnd (6); AND HOW A SLICE OF BYTES THAT CAME IN IS OPENED.
-/
import Derived.Test.Qxb6603105aWordLaws
import Derived.OpenShut
namespace Go.Proofs.Qxb6603105a.Word
open Go.RowKit Pl

theorem plain_add (b off i : Nat) : (⟨b, off, none⟩ : Addr).add i = ⟨b, off + i, none⟩ := by unfold Addr.add; split <;> simp_all

theorem bytes13_ok (u v : Value) (ao : Option Addr) (N cap : Nat) (w : World) (h : N ≤ 1048576) : Calls Try.prog 13 #[u, v, .slice ao N cap] w fun e w' => e = .returned (.bool true) ∧ w' = w := by
  have h1 : (N : Int) ≤ 1048576 := by omega
  go_enter Try.func13, Try.ntmps13
  go_wp2
  go_ret
  exact ⟨rfl, rfl⟩

theorem bytes13_bad (u v : Value) (ao : Option Addr) (N cap : Nat) (w : World) (h : 1048576 < N) : Calls Try.prog 13 #[u, v, .slice ao N cap] w fun e w' => e = .returned (.bool false) ∧ w' = w := by
  have h1 : 1048576 < (N : Int) := by omega
  go_enter Try.func13, Try.ntmps13
  go_wp2
  go_ret
  exact ⟨rfl, rfl⟩

/-- A slice of bytes that came in: empty, or a row of bytes at a plain address. -/
theorem row_cases {w : World} {a : Option Addr} {len cap : Nat} {zs : List Int}
    (h : (a = none ∧ len = 0 ∧ cap = 0 ∧ zs = []) ∨ ∃ x, a = some x ∧ len ≤ cap ∧ cap ≤ maxLen ∧ zs.length = cap ∧ (∀ i, i < zs.length → w.cell? (x.add i) = some (.int .u8 (zs.getD i 0))) ∧ ∀ n ∈ zs, (Lit.int .u8 n).wf = true) :
    len ≤ maxLen ∧ ((len = 0 ∧ (a = none → cap = 0)) ∨ ∃ (b off : Nat) (L : List Nat), a = some ⟨b, off, none⟩ ∧ len = L.length ∧ b < w.heap.size ∧ (∀ i (h : i < L.length), w.cell? ⟨b, off + i, none⟩ = some (.int .u8 (L[i] : Int))) ∧ ∀ c ∈ L, c ≤ 255) := by
  rcases h with ⟨rfl, rfl, rfl, rfl⟩ | ⟨x, rfl, hl, hm, hz, hcell, hw⟩
  · exact ⟨Nat.zero_le _, .inl ⟨rfl, fun _ => rfl⟩⟩
  · refine ⟨Nat.le_trans hl hm, ?_⟩
    by_cases h0 : len = 0
    · exact .inl ⟨h0, fun h => by cases h⟩
    · right
      obtain ⟨b, off, spot⟩ := x
      have hc0 := hcell 0 (by omega)
      have hspot : spot = none := by simpa [Addr.add] using World.cell?_spot hc0
      subst hspot
      have hb : b < w.heap.size := by
        have := World.block_lt_of_cell? _ _ hc0
        simpa [Addr.add] using this
      have rng : ∀ i (h : i < zs.length), 0 ≤ zs[i] ∧ zs[i] ≤ 255 := fun i h => bounds_u8 (hw _ (List.getElem_mem h))
      refine ⟨b, off, (zs.take len).map Int.toNat, rfl, by simp; omega, hb, fun i hi => ?_, fun c hc => ?_⟩
      · have hi' : i < zs.length := by simp at hi; omega
        have hk := hcell i hi'
        rw [plain_add, List.getD, List.getElem?_eq_getElem hi'] at hk
        rw [hk]
        have := rng i hi'
        simp
        omega
      · obtain ⟨z, hz1, rfl⟩ := List.mem_map.1 hc
        have := bounds_u8 (hw z (List.mem_of_mem_take hz1))
        omega

theorem ret_u32 {a b : Int} (h : a = b) : Ending.returned (.int .u32 a) = .returned (.int .u32 b) := by rw [h]

/-- What a bool adds. -/
def one (p : Bool) : Nat := if p then 1 else 0

theorem held_any (s N : Nat) (to : Option Addr) (cap : Nat) (p : Bool) (w : World) (hN : N ≤ 1048576) :
    Calls Try.prog 14 #[.int .u32 (s : Int), .slice to N cap, .bool p] w fun e w' => (∃ r : Nat, e = .returned (.int .u32 (r : Int)) ∧ r < 4294967296 ∧ r = (s + N + one p) % 4294967296) ∧ ∃ o, w' = w.alloc o := by
  cases p with
  | true =>
    go_enter Try.func14, Try.ntmps14
    go_wp2
    go_ret
    exact ⟨⟨(s + N + 1) % 4294967296, ret_u32 (by omega), Nat.mod_lt _ (by omega), rfl⟩, _, rfl⟩
  | false =>
    go_enter Try.func14, Try.ntmps14
    go_wp2
    go_ret
    exact ⟨⟨(s + N + 0) % 4294967296, ret_u32 (by omega), Nat.mod_lt _ (by omega), rfl⟩, _, rfl⟩

theorem seq_any (f : Int) (N : Nat) (to : Option Addr) (cap : Nat) (p q : Bool) (w : World) (hN : N ≤ 1048576) (h1 : (bits .and .u8 f 1 != 0) = p) (h2 : (bits .and .u8 f 2 != 0) = q) :
    Calls Try.prog 15 #[.int .u8 f, .slice to N cap] w fun e w' => (∃ r : Nat, e = .returned (.int .u32 (r : Int)) ∧ r = N + one q + one p) ∧ w' = w := by
  cases p with
  | true =>
    cases q with
    | true =>
      go_enter Try.func15, Try.ntmps15
      go_wp2
      go_ret
      exact ⟨⟨N + 1 + 1, ret_u32 (by omega), rfl⟩, rfl⟩
    | false =>
      go_enter Try.func15, Try.ntmps15
      go_wp2
      go_ret
      exact ⟨⟨N + 0 + 1, ret_u32 (by omega), rfl⟩, rfl⟩
  | false =>
    cases q with
    | true =>
      go_enter Try.func15, Try.ntmps15
      go_wp2
      go_ret
      exact ⟨⟨N + 1 + 0, ret_u32 (by omega), rfl⟩, rfl⟩
    | false =>
      go_enter Try.func15, Try.ntmps15
      go_wp2
      go_ret
      exact ⟨⟨N + 0 + 0, ret_u32 (by omega), rfl⟩, rfl⟩

theorem fit1 {s N r t a : Nat} (hr : r = (s + N + a) % 4294967296) (ht : t = N + 1 + a) : (((r : Int) + 1) % 4294967296 == ((s : Int) + (t : Int)) % 4294967296) = true := by
  rw [beq_iff_eq]
  omega

theorem fit0 {s N r t a : Nat} (hr : r = (s + N + a) % 4294967296) (ht : t = N + 0 + a) : ((r : Int) == ((s : Int) + (t : Int)) % 4294967296) = true := by
  rw [beq_iff_eq]
  omega

set_option maxHeartbeats 400000 in
theorem law6_any (s : Nat) (f : Int) (ao : Option Addr) (N cap : Nat) (w : World) (hm : N ≤ maxLen)
    (hcl : N ≤ 1048576 → Calls Try.prog 8 #[.slice ao N cap] w fun e w' => (∃ to, e = .returned (.slice to N N)) ∧ Below w.heap.size w w') :
    Calls Try.prog 6 #[.int .u32 (s : Int), .int .u8 f, .slice ao N cap] w fun e w' => e = .returned (.bool true) ∧ Below w.heap.size w w' := by
  unfold maxLen at hm
  by_cases hN : N ≤ 1048576
  · have HCl : Hid (Calls Try.prog 8 #[.slice ao N cap] w fun e w' => (∃ to, e = .returned (.slice to N N)) ∧ Below w.heap.size w w') := hcl hN
    clear hcl
    obtain ⟨p, hp⟩ : ∃ p, (bits .and .u8 f 1 != 0) = p := ⟨_, rfl⟩
    obtain ⟨q, hq⟩ : ∃ q, (bits .and .u8 f 2 != 0) = q := ⟨_, rfl⟩
    have HP : Hid ((bits .and .u8 f 1 != 0) = p) := hp
    have HQ : Hid ((bits .and .u8 f 2 != 0) = q) := hq
    cases q with
    | true =>
      go_enter Try.func6, Try.ntmps6
      go_wp2_with fail
      refine (bytes13_ok _ _ _ _ _ _ hN).mono ?_
      rintro e w ⟨rfl, rfl⟩
      go_wp2_with fail
      refine HCl.out.mono ?_
      rintro e w1 ⟨⟨to, rfl⟩, hb⟩
      have HB : Hid (Below w.heap.size w w1) := hb
      clear hb
      go_wp2_with fail
      refine (held_any s N to N p w1 hN).mono ?_
      rintro e w2 ⟨⟨r, rfl, hr1, hr⟩, o, rfl⟩
      have HR : Hid (r = (s + N + one p) % 4294967296) := hr
      clear hr
      go_wp2_with fail
      refine (seq_any f N to N p true _ hN HP.out HQ.out).mono ?_
      rintro e w2 ⟨⟨t, rfl, ht⟩, rfl⟩
      have HT : Hid (t = N + one true + one p) := ht
      clear ht
      go_wp2_with fail
      go_ret
      exact ⟨ret_true (fit1 HR.out HT.out), HB.out.alloc HB.out.size _⟩
    | false =>
      go_enter Try.func6, Try.ntmps6
      go_wp2_with fail
      refine (bytes13_ok _ _ _ _ _ _ hN).mono ?_
      rintro e w ⟨rfl, rfl⟩
      go_wp2_with fail
      refine HCl.out.mono ?_
      rintro e w1 ⟨⟨to, rfl⟩, hb⟩
      have HB : Hid (Below w.heap.size w w1) := hb
      clear hb
      go_wp2_with fail
      refine (held_any s N to N p w1 hN).mono ?_
      rintro e w2 ⟨⟨r, rfl, hr1, hr⟩, o, rfl⟩
      have HR : Hid (r = (s + N + one p) % 4294967296) := hr
      clear hr
      go_wp2_with fail
      refine (seq_any f N to N p false _ hN HP.out HQ.out).mono ?_
      rintro e w2 ⟨⟨t, rfl, ht⟩, rfl⟩
      have HT : Hid (t = N + one false + one p) := ht
      clear ht
      go_wp2_with fail
      go_ret
      exact ⟨ret_true (fit0 HR.out HT.out), HB.out.alloc HB.out.size _⟩
  · go_enter Try.func6, Try.ntmps6
    go_wp2_with (go_at_call 13; refine (bytes13_bad _ _ _ _ _ _ (by omega)).mono ?_; rintro e w ⟨rfl, rfl⟩)
    go_ret
    exact ⟨rfl, Below.refl _ _⟩

/-- The copy, of whatever slice came in. -/
theorem clone_len {w : World} {a : Option Addr} {len cap : Nat} (h : (len = 0 ∧ (a = none → cap = 0)) ∨ ∃ (b off : Nat) (L : List Nat), a = some ⟨b, off, none⟩ ∧ len = L.length ∧ b < w.heap.size ∧ (∀ i (h : i < L.length), w.cell? ⟨b, off + i, none⟩ = some (.int .u8 (L[i] : Int))) ∧ ∀ c ∈ L, c ≤ 255) (hN : len ≤ 1048576) :
    Calls Try.prog 8 #[.slice a len cap] w fun e w' => (∃ to, e = .returned (.slice to len len)) ∧ Below w.heap.size w w' := by
  rcases h with ⟨rfl, hn⟩ | ⟨b, off, L, rfl, hl, hb, hc, _⟩
  · exact clone_none a cap hn w
  · exact (clone_any b off len cap L w hN hl hb hc).mono fun e w' h => ⟨⟨_, h.1⟩, by rw [h.2]; exact (Below.refl _ _).alloc (Nat.le_refl _) _⟩
end Go.Proofs.Qxb6603105a.Word
