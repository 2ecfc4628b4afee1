/-
  THE WALK OF FnGrantFirstMatchModel (3): the forward and the backward scan meet.
-/
import Derived.Test.Qxb6601939aGrantC

namespace Go.Proofs.Qxb6601939a.Grant
open Go.RowKit

/-- What Grant answered: the record and the flag. -/
def Got (N : Nat) (R : Nat → Rc) (x y z : ByteArray) (g : Rc) (ok : Bool) : Prop :=
  (ok = true ∧ ∃ k, k < N ∧ g = R k ∧ (R k).key x y z = true ∧ NoneTo k R x y z) ∨ (ok = false ∧ g = zeroRc ∧ NoneTo N R x y z)

theorem granted_got {N : Nat} {R : Nat → Rc} {x y z : ByteArray} {e : Ending} (h : Granted N R x y z e) :
    ∃ (g : Rc) (ok : Bool), e = .returned (.tuple #[.agg #[.string g.a, .string g.b, .string g.c, .bool g.d, .bool g.e], .bool ok]) ∧ Got N R x y z g ok := by
  rcases h with ⟨k, hk, rfl, h1, h2⟩ | ⟨rfl, h⟩
  · exact ⟨R k, true, rfl, .inl ⟨rfl, k, hk, rfl, h1, h2⟩⟩
  · exact ⟨zeroRc, false, rfl, .inr ⟨rfl, rfl, h⟩⟩

/-- The backward scan: j is the least index from m on that has the key, or -1. -/
def Back (N : Nat) (R : Nat → Rc) (x y z : ByteArray) (m : Nat) (j : Int) : Prop :=
  (j = -1 ∧ ∀ i, m ≤ i → i < N → (R i).key x y z = false) ∨
  (∃ q : Nat, j = (q : Int) ∧ m ≤ q ∧ q < N ∧ (R q).key x y z = true ∧ ∀ i, m ≤ i → i < q → (R i).key x y z = false)

theorem back_start (N : Nat) (R : Nat → Rc) (x y z : ByteArray) : Back N R x y z N (-1) := .inl ⟨rfl, fun i h1 h2 => by omega⟩

theorem back_hit {N m : Nat} {R : Nat → Rc} {x y z : ByteArray} (hm : m < N) (hk : (R m).key x y z = true) : Back N R x y z m (m : Int) :=
  .inr ⟨m, rfl, Nat.le_refl _, hm, hk, fun i h1 h2 => by omega⟩

theorem back_miss {N m : Nat} {R : Nat → Rc} {x y z : ByteArray} {j : Int} (h : Back N R x y z (m + 1) j) (hk : (R m).key x y z = false) : Back N R x y z m j := by
  have step : ∀ i, m ≤ i → (m + 1 ≤ i → (R i).key x y z = false) → (R i).key x y z = false := fun i h1 h2 => by
    by_cases e : i = m
    · subst e; exact hk
    · exact h2 (by omega)
  rcases h with ⟨h1, h2⟩ | ⟨q, h1, h2, h3, h4, h5⟩
  · exact .inl ⟨h1, fun i a b => step i a (fun c => h2 i c b)⟩
  · exact .inr ⟨q, h1, by omega, h3, h4, fun i a b => step i a (fun c => h5 i c b)⟩

/-- The two scans meet. -/
theorem meet {N : Nat} {R : Nat → Rc} {x y z : ByteArray} {g : Rc} {ok : Bool} {j : Int} (h : Got N R x y z g ok) (hb : Back N R x y z 0 j) :
    (j = -1 ∧ ok = false ∧ g = zeroRc) ∨ (∃ q : Nat, j = (q : Int) ∧ q < N ∧ ok = true ∧ g = R q) := by
  rcases h with ⟨h1, k, hk, hg, hkey, hno⟩ | ⟨h1, hg, hno⟩ <;> rcases hb with ⟨b1, b2⟩ | ⟨q, b1, b2, b3, b4, b5⟩
  · have := b2 k (Nat.zero_le _) hk
    rw [hkey] at this
    exact absurd this (by decide)
  · have hkq : k = q := by
      rcases Nat.lt_trichotomy k q with h | h | h
      · have := b5 k (Nat.zero_le _) h
        rw [hkey] at this
        exact absurd this (by decide)
      · exact h
      · have := hno q h
        rw [b4] at this
        exact absurd this (by decide)
    subst hkq
    exact .inr ⟨k, b1, hk, h1, hg⟩
  · exact .inl ⟨b1, h1, hg⟩
  · have := hno q b3
    rw [b4] at this
    exact absurd this (by decide)

theorem tab_at {w : World} {T N : Nat} {R : Nat → Rc} (h : TabIs w T N R N) : T < w.heap.size ∧ ∀ i, i < N → TabAt w T R i := by
  obtain ⟨arr, harr, hsz, hal⟩ := h
  refine ⟨?_, fun i hi => ?_⟩
  · rcases Nat.lt_or_ge T w.heap.size with h' | h'
    · exact h'
    · rw [Array.getElem?_eq_none h'] at harr; simp at harr
  · unfold TabAt
    simp only [tab_cell harr]
    exact hal i hi

theorem below_al {W w : World} (h : Below W.heap.size W w) (o : Obj) : Below W.heap.size W (w.alloc o) := h.alloc h.size o

theorem toTable_none (ao : Option Addr) (cap : Nat) (hnil : ao = none → cap = 0) (w : World) :
    Calls Try.prog 10 #[.slice ao 0 cap] w fun e w' => (∃ to, e = .returned (.slice to 0 0)) ∧ Below w.heap.size w w' := by
  cases ao with
  | none =>
    obtain rfl := hnil rfl
    exact (toTable_nil w).mono fun e w' h => ⟨⟨_, h.1⟩, by rw [h.2]; exact Below.refl _ _⟩
  | some a => exact (toTable_empty a cap w).mono fun e w' h => ⟨⟨_, h.1⟩, h.2⟩

set_option maxHeartbeats 1000000 in
theorem main_some (b off N cap : Nat) (R : Nat → Rc) (x y z : ByteArray) (w : World) (hN : N ≤ maxLen) (hr : ∀ i, i < N → RowAt w b off R i) (hs : ∀ i, (R i).small) (hx : x.size ≤ maxLen) (hy : y.size ≤ maxLen) (hz : z.size ≤ maxLen) (hb : b < w.heap.size) :
    Calls Try.prog 3 #[.slice (some ⟨b, off, none⟩) N cap, .string x, .string y, .string z] w fun e w' => e = .returned (.bool true) ∧ Below w.heap.size w w' := by
  have HC : Hid (∀ i, i < N → RowAt w b off R i) := hr
  have HS : Hid (∀ i, (R i).small) := hs
  have HL : Hid (N ≤ maxLen ∧ x.size ≤ maxLen ∧ y.size ≤ maxLen ∧ z.size ≤ maxLen) := ⟨hN, hx, hy, hz⟩
  unfold maxLen at hN hx hy hz
  clear hr hs
  go_enter Try.func3, Try.ntmps3
  go_wp2_with fail
  refine (bytes_any b off N cap R x y z _ HL.out.1 HC.out HS.out HL.out.2.1 HL.out.2.2.1 HL.out.2.2.2).mono ?_
  rintro e w ⟨⟨c, rfl⟩, rfl⟩
  cases c with
  | false =>
    go_wp2_with fail
    go_ret
    exact ⟨rfl, Below.refl _ _⟩
  | true =>
    by_cases h1 : N ≤ 65536 ∧ x.size ≤ 1048576 ∧ y.size ≤ 1048576 ∧ z.size ≤ 1048576
    · obtain ⟨h1, h2, h3, h4⟩ := h1
      go_wp2_with fail
      refine (queryLeft_any x y z _ HL.out.2.1 HL.out.2.2.1 HL.out.2.2.2).mono ?_
      rintro e w ⟨r, rfl, l1, u1, rfl⟩
      go_wp2_with fail
      refine (takeRecs_any r b off N cap R _ l1 u1 HL.out.1 HC.out HS.out).mono ?_
      rintro e w ⟨r2, rfl, l2, u2, rfl⟩
      go_wp2_with fail
      · go_ret
        exact ⟨rfl, Below.refl _ _⟩
      · refine (toTable_any b off N cap R _ h1 HC.out hb).mono ?_
        rintro e w1 ⟨rfl, hb1, ht⟩
        obtain ⟨hT, htab⟩ := tab_at ht
        have HT : Hid (∀ i, i < N → TabAt w1 w.heap.size R i) := htab
        have HB1 : Hid (Below w.heap.size w w1) := hb1
        clear ht htab hb1
        go_wp2_with fail
        refine (grant_any w.heap.size N R x y z w1 hT h1 HT.out).mono ?_
        rintro e w2 ⟨hg, hb2⟩
        obtain ⟨g, ok, rfl, hgot⟩ := granted_got hg
        have HG : Hid (Got N R x y z g ok) := hgot
        have HB2 : Hid (Below w.heap.size w w2) := HB1.out.trans (hb2.mono HB1.out.size)
        clear hg hgot hb2
        have hb2 : b < w2.heap.size := by have := HB2.out.size; omega
        go_wp2_with fail
        go_loopw [12, 13] (fun iv jv wr => ∃ (m : Nat) (j : Int), m ≤ N ∧ jv = .int .i64 ((m : Int) - 1) ∧ iv = .int .i64 j ∧ Back N R x y z m j ∧ Below (w2.heap.size + 1) (w2.alloc (.cells #[.string g.a, .string g.b, .string g.c, .bool g.d, .bool g.e] 31)) wr) (fun _ i _ => (intOf i + 1).toNat)
        case atStart => exact ⟨N, -1, Nat.le_refl _, rfl, rfl, back_start _ _ _ _ _, Below.refl _ _⟩
        case round =>
          obtain ⟨m, j, hm, rfl, rfl, hbk, hbr⟩ := hrel
          have HBk : Hid (Back N R x y z m j) := hbk
          have HBr : Hid (Below (w2.heap.size + 1) (w2.alloc (.cells #[.string g.a, .string g.b, .string g.c, .bool g.d, .bool g.e] 31)) wr) := hbr
          have hsz : w2.heap.size + 1 ≤ wr.heap.size := by have := hbr.size; rw [World.size_alloc] at this; omega
          have hsz0 : w2.heap.size < wr.heap.size := by omega
          have hold : ∀ o, wr.cell? ⟨b, o, none⟩ = w.cell? ⟨b, o, none⟩ := fun o => by
            rw [hbr.cell (p := ⟨b, o, none⟩) (by show b < _; omega), World.cell?_alloc_lt _ _ _ hb2, HB2.out.cell (p := ⟨b, o, none⟩) hb]
          have HO := hold
          have HOl : Hid (∀ o, wr.cell? ⟨b, o, none⟩ = w.cell? ⟨b, o, none⟩) := HO
          clear hbk hbr hold HO
          have hgc : ∀ o, wr.cell? ⟨w2.heap.size, o, none⟩ = (w2.alloc (.cells #[.string g.a, .string g.b, .string g.c, .bool g.d, .bool g.e] 31)).cell? ⟨w2.heap.size, o, none⟩ := fun o => HBr.out.cell (p := ⟨w2.heap.size, o, none⟩) (by show w2.heap.size < _; omega)
          have k0 : wr.cell? ⟨w2.heap.size, 0, none⟩ = some (.string g.a) := by rw [hgc]; simp
          have k1 : wr.cell? ⟨w2.heap.size, 1, none⟩ = some (.string g.b) := by rw [hgc]; simp
          have k2 : wr.cell? ⟨w2.heap.size, 2, none⟩ = some (.string g.c) := by rw [hgc]; simp
          have k3 : wr.cell? ⟨w2.heap.size, 3, none⟩ = some (.bool g.d) := by rw [hgc]; simp
          have k4 : wr.cell? ⟨w2.heap.size, 4, none⟩ = some (.bool g.e) := by rw [hgc]; simp
          clear hgc
          by_cases h0 : m = 0
          · subst h0
            have ez : ((0 : Nat) : Int) - 1 = -1 := rfl
            rw [ez]
            clear ez
            have HBw : Hid (Below w.heap.size w wr) := (below_al HB2.out _).trans (HBr.out.mono (by have := HB2.out.size; omega))
            rcases meet HG.out HBk.out with ⟨rfl, hok, hg⟩ | ⟨q, rfl, hq, hok, hg⟩
            · rw [hg] at k0 k1 k2 k3 k4
              simp only [zeroRc] at k0 k1 k2 k3 k4
              clear hg
              go_wp2_with fail
              go_ret
              exact ⟨rfl, below_al HBw.out _⟩
            · obtain ⟨c0, c1, c2, c3, c4⟩ := HC.out q hq
              rw [← HOl.out] at c0 c1 c2 c3 c4
              have hbr : b < wr.heap.size := by omega
              have hbr1 : b < wr.heap.size + 1 := by omega
              have hbr2 : b < wr.heap.size + 1 + 1 := by omega
              have hsz1 : w2.heap.size < wr.heap.size + 1 := by omega
              have hsz2 : w2.heap.size < wr.heap.size + 1 + 1 := by omega
              have gq : (q : Int) < (N : Int) := by omega
              rw [hg] at k0 k1 k2 k3 k4
              clear hg
              go_wp2_with fail
              go_region_with (go_at_call 13; refine (toRecord_any _ _ _ _ _ _).mono ?_; rintro e w' ⟨rfl, o1, o2, rfl⟩)
              all_goals go_wp2_with fail
              all_goals
                go_ret
                exact ⟨rfl, (below_al (below_al (below_al HBw.out _) _) _).drew⟩
          · obtain ⟨i, rfl⟩ : ∃ i, m = i + 1 := ⟨m - 1, by omega⟩
            have ei : ((i + 1 : Nat) : Int) - 1 = (i : Int) := by omega
            rw [ei]
            clear ei h0
            have gi : (i : Int) < (N : Int) := by omega
            obtain ⟨c0, c1, c2, c3, c4⟩ := HC.out i (by omega)
            rw [← HOl.out] at c0 c1 c2 c3 c4
            have hbr : b < wr.heap.size := by omega
            by_cases hk : keyB (R i).a (R i).b (R i).c x y z = true
            · have HK : Hid ((R i).key x y z = true) := hk
              go_wp2_with fail
              refine (hasKey_any _ _ _ _ _ _ _ _ _).mono ?_
              rintro e w' ⟨rfl, o1, rfl⟩
              go_wp2_with fail
              go_roundw
              case rel => exact ⟨i, (i : Int), by omega, rfl, rfl, back_hit (by omega) HK.out, HBr.out.alloc hsz _⟩
              case measure => simp [intOf]
            · have hk' : keyB (R i).a (R i).b (R i).c x y z = false := by simpa using hk
              clear hk
              have HK : Hid ((R i).key x y z = false) := hk'
              go_wp2_with fail
              refine (hasKey_any _ _ _ _ _ _ _ _ _).mono ?_
              rintro e w' ⟨rfl, o1, rfl⟩
              go_wp2_with fail
              go_roundw
              case rel => exact ⟨i, j, by omega, rfl, rfl, back_miss HBk.out HK.out, HBr.out.alloc hsz _⟩
              case measure => simp [intOf]
    · rcases (show 65536 < N ∨ (N ≤ 65536 ∧ 1048576 < x.size) ∨ (N ≤ 65536 ∧ x.size ≤ 1048576 ∧ 1048576 < y.size) ∨ (N ≤ 65536 ∧ x.size ≤ 1048576 ∧ y.size ≤ 1048576 ∧ 1048576 < z.size) from by omega) with h2 | ⟨h2, h3⟩ | ⟨h2, h3, h4⟩ | ⟨h2, h3, h4, h5⟩
      all_goals
        clear h1
        go_wp2_with fail
        go_ret
        exact ⟨rfl, Below.refl _ _⟩

set_option maxHeartbeats 1000000 in
/-- An empty slice, whatever its address. -/
theorem main_none (ao : Option Addr) (cap : Nat) (hnil : ao = none → cap = 0) (x y z : ByteArray) (w : World) (hx : x.size ≤ maxLen) (hy : y.size ≤ maxLen) (hz : z.size ≤ maxLen) :
    Calls Try.prog 3 #[.slice ao 0 cap, .string x, .string y, .string z] w fun e w' => e = .returned (.bool true) ∧ Below w.heap.size w w' := by
  have HL : Hid (x.size ≤ maxLen ∧ y.size ≤ maxLen ∧ z.size ≤ maxLen) := ⟨hx, hy, hz⟩
  have HN : Hid (ao = none → cap = 0) := hnil
  unfold maxLen at hx hy hz
  clear hnil
  go_enter Try.func3, Try.ntmps3
  go_wp2_with fail
  refine (bytes_none ao cap x y z _ HL.out.1 HL.out.2.1 HL.out.2.2).mono ?_
  rintro e w ⟨⟨c, rfl⟩, rfl⟩
  cases c with
  | false =>
    go_wp2_with fail
    go_ret
    exact ⟨rfl, Below.refl _ _⟩
  | true =>
    by_cases h1 : x.size ≤ 1048576 ∧ y.size ≤ 1048576 ∧ z.size ≤ 1048576
    · obtain ⟨h2, h3, h4⟩ := h1
      go_wp2_with fail
      refine (queryLeft_any x y z _ HL.out.1 HL.out.2.1 HL.out.2.2).mono ?_
      rintro e w ⟨r, rfl, l1, u1, rfl⟩
      go_wp2_with fail
      refine (takeRecs_none r ao cap _ l1 u1).mono ?_
      rintro e w ⟨r2, rfl, l2, u2, rfl⟩
      go_wp2_with fail
      · go_ret
        exact ⟨rfl, Below.refl _ _⟩
      · refine (toTable_none ao cap HN.out w).mono ?_
        rintro e w1 ⟨⟨to, rfl⟩, hb1⟩
        have HB1 : Hid (Below w.heap.size w w1) := hb1
        clear hb1
        go_wp2_with fail
        refine (grant_none to 0 (fun _ => zeroRc) x y z w1).mono ?_
        rintro e w2 ⟨hg, hb2⟩
        obtain ⟨g, ok, rfl, hgot⟩ := granted_got hg
        have HB2 : Hid (Below w.heap.size w w2) := HB1.out.trans (hb2.mono HB1.out.size)
        obtain ⟨hok, hgz⟩ : ok = false ∧ g = zeroRc := by
          rcases hgot with ⟨_, k, hk, _⟩ | ⟨h, h', _⟩
          · omega
          · exact ⟨h, h'⟩
        subst hgz
        clear hg hgot hb2
        simp only [zeroRc]
        go_wp2_with fail
        refine wp_loop_rounds 1 ?_
        rw [rounds_succ]
        go_wp2_with fail
        go_ret
        exact ⟨rfl, below_al (below_al HB2.out _) _⟩
    · rcases (show 1048576 < x.size ∨ (x.size ≤ 1048576 ∧ 1048576 < y.size) ∨ (x.size ≤ 1048576 ∧ y.size ≤ 1048576 ∧ 1048576 < z.size) from by omega) with h3 | ⟨h3, h4⟩ | ⟨h3, h4, h5⟩
      all_goals
        clear h1
        go_wp2_with fail
        go_ret
        exact ⟨rfl, Below.refl _ _⟩
end Go.Proofs.Qxb6601939a.Grant
