/-
  THE WALK OF 'base26Increment' (9): three loops over two rows of its own.
-/
import Derived.Test.Qxb6601871aLetters
import Derived.Test.Qxb6601871aPlainInc
import Derived.Deep.OwnRows
namespace Go.Proofs.Qxb6601871a.Letters
open Go.RowKit Pl

theorem info5 : (Try.prog.info? 5).map (fun i => (i.zero, i.size, i.bytes)) = some (some (.int .u8 0), 1, 1) := by kernel_rfl

/-- A row of bytes. -/
def brow (l : List Nat) : Array Value := (l.map fun d : Nat => Value.int .u8 (d : Int)).toArray

theorem brow_at (l : List Nat) (k : Nat) (h : k < l.length) : (brow l)[k]? = some (.int .u8 (l[k] : Int)) := by
  unfold brow
  simp [h]

theorem brow_set (l : List Nat) (k c : Nat) : (brow l).setIfInBounds k (.int .u8 (c : Int)) = brow (l.set k c) := by
  unfold brow
  simp [List.map_set]

theorem brow_made (n : Nat) : madeCells #[.int .u8 0] n = brow (List.replicate n 0) := by
  apply Array.toList_inj.1
  rw [toList_madeCells_one]
  simp [brow]

theorem make_row (n : Nat) (h : n ≤ 100) (w : World) : (Instr.makeSlice 30 (.int .i64 (n : Int)) (.int .i64 (n : Int))).run Try.prog w = .ok (.slice (some ⟨w.heap.size, 0, none⟩) n n) (w.alloc (.cells (brow (List.replicate n 0)) 5)) := by
  rw [run_make_row' (P := Try.prog) 30 5 (.int .u8 0) 1 Try.underlying30 info5 rfl .i64 .i64 n (by omega) (by omega) w, brow_made]

theorem brow_cell (l : List Nat) (w : World) (i : Nat) (h : i < l.length) : (w.alloc (.cells (brow l) 5)).cell? ⟨w.heap.size, 0 + i, none⟩ = some (.int .u8 ((l.map fun d : Nat => (d : Int)).getD i 0)) := by
  have e := brow_at l i h
  rw [Nat.zero_add]
  simp [e, h]

theorem conv_row (l : List Nat) (w : World) (n : Nat) (hl : l.length = n) :
    (convert 30 9 (.slice (some ⟨w.heap.size, 0, none⟩) n n)).run Try.prog (w.alloc (.cells (brow l) 5)) = .ok (.string (bstr l)) (w.alloc (.cells (brow l) 5)) := by
  rw [run_convert_bytes_arg (P := Try.prog) _ 30 5 Try.underlying30 Try.underlying5 w.heap.size 0 n n (l.map fun d : Nat => (d : Int)) (by simpa using hl) (fun i hi => brow_cell l w i (by omega)) 9 Try.underlying9, strOf_bstr]

theorem conv_row2 (l : List Nat) (w : World) (o : Obj) (n : Nat) (hl : l.length = n) :
    (convert 30 9 (.slice (some ⟨w.heap.size + 1, 0, none⟩) n n)).run Try.prog ((w.alloc o).alloc (.cells (brow l) 5)) = .ok (.string (bstr l)) ((w.alloc o).alloc (.cells (brow l) 5)) := by
  have h := conv_row l (w.alloc o) n hl
  rw [World.size_alloc] at h
  exact h

set_option maxHeartbeats 1000000 in
theorem inc_any (n : Nat) (s : ByteArray) (hs : s.size = (lets n).length) (hb : ∀ k (h : k < s.size) (h' : k < (lets n).length), s[k].toNat = (lets n)[k]) (hm : s.size ≤ 14) (w : World) :
    Calls Try.prog 9 #[.string s] w fun e w' => e = .returned (.string (bstr (lets (n + 1)))) ∧ Grown w w' := by
  have hN : 1 ≤ s.size := by have := lets_pos n; omega
  have HL : Hid (s.size = (lets n).length) := hs
  have HB : Hid (∀ k (h : k < s.size) (h' : k < (lets n).length), s[k].toNat = (lets n)[k]) := hb
  clear hs hb
  have hmk := fun W => make_row s.size (by omega) W
  go_enter Try.func9, Try.ntmps9
  go_wp2
  go_loopw [4] (fun i wr => ∃ (k : Nat) (l : List Nat), k ≤ s.size ∧ i = .int .i64 (k : Int) ∧ wr = w.alloc (.cells (brow l) 5) ∧ l = (lets n).take k ++ List.replicate (s.size - k) 0) (fun i _ => s.size - (intOf i).toNat)
  case atStart => exact ⟨0, _, Nat.zero_le _, rfl, rfl, rfl⟩
  case round =>
    obtain ⟨k, l, hk, rfl, rfl, hl⟩ := hrel
    have HE : Hid (l = (lets n).take k ++ List.replicate (s.size - k) 0) := hl
    clear hl
    by_cases hlt : k < s.size
    · have g1 : (k : Int) < (s.size : Int) := by omega
      have hkl : k < (lets n).length := by have := HL.out; omega
      obtain ⟨hkl2, hset⟩ := st_copy (lets n) l s.size k HL.out hlt HE.out
      have hst := brow_set l k s[k].toNat
      rw [HB.out k hlt hkl, hset hkl, ← HB.out k hlt hkl] at hst
      obtain ⟨c, ha⟩ : ∃ c, (brow l)[k]? = some (.int .u8 c) := ⟨_, brow_at l k hkl2⟩
      clear hkl hkl2 hset
      go_wp2
      go_roundw
      case rel => exact ⟨k + 1, _, by omega, by go_num, rfl, rfl⟩
      case measure => simp [intOf]; omega
    · have hl := st_full (lets n) l s.size k HL.out hlt HE.out
      subst hl
      clear HE
      go_wp2
      go_loopw [5] (fun i wr => ∃ (m : Nat) (l : List Nat), m ≤ s.size ∧ i = .int .i64 ((m : Int) - 1) ∧ wr = w.alloc (.cells (brow l) 5) ∧ P2 (lets n) s.size m l) (fun i _ => (intOf i + 1).toNat)
      case atStart => exact ⟨s.size, _, Nat.le_refl _, rfl, rfl, st2_start _ _ HL.out⟩
      case round =>
        obtain ⟨m, l, hm2, rfl, rfl, hp⟩ := hrel
        have HP : Hid (P2 (lets n) s.size m l) := hp
        clear hp
        by_cases h0 : m = 0
        · subst h0
          obtain ⟨hl, hres⟩ := st2_all HP.out hN
          subst hl
          have HR : Hid (lets (n + 1) = 98 :: List.replicate s.size 97) := hres
          clear hres HP
          have ez : ((0 : Nat) : Int) - 1 = -1 := rfl
          rw [ez]
          clear ez
          have hmk2 := fun W => make_row (s.size + 1) (by omega) W
          rw [show ((s.size + 1 : Nat) : Int) = (s.size : Int) + 1 from by omega] at hmk2
          have hst0 : (brow (List.replicate (s.size + 1) 0)).setIfInBounds 0 (.int .u8 98) = brow (P3 s.size 0) := by
            rw [← P3_start]
            exact brow_set _ _ _
          have ha0 : (brow (List.replicate (s.size + 1) 0))[0]? = some (.int .u8 0) := by
            rw [brow_at _ _ (by simp)]
            simp
          go_wp2
          go_loopw [7] (fun i wr => ∃ m : Nat, m ≤ s.size ∧ i = .int .i64 (m : Int) ∧ wr = (w.alloc (.cells (brow (List.replicate s.size 97)) 5)).alloc (.cells (brow (P3 s.size m)) 5)) (fun i _ => s.size - (intOf i).toNat)
          case atStart => exact ⟨0, Nat.zero_le _, rfl, rfl⟩
          case round =>
            obtain ⟨m, hm3, rfl, rfl⟩ := hrel
            by_cases hlt3 : m < s.size
            · have g3 : (m : Int) < (s.size : Int) := by omega
              have ha1 : (brow (List.replicate s.size 97))[m]? = some (.int .u8 97) := by
                rw [brow_at _ _ (by simpa using hlt3)]
                simp
              obtain ⟨c, ha2⟩ : ∃ c, (brow (P3 s.size m))[m + 1]? = some (.int .u8 c) := ⟨_, brow_at _ _ (by rw [P3_len _ _ hm3]; omega)⟩
              have hst3 : (brow (P3 s.size m)).setIfInBounds (m + 1) (.int .u8 97) = brow (P3 s.size (m + 1)) := by
                rw [← P3_set _ _ hlt3]
                exact brow_set _ _ _
              go_wp2
              go_roundw
              case rel => exact ⟨m + 1, by omega, by go_num, rfl⟩
              case measure => simp [intOf]; omega
            · have hp3 := P3_full s.size m hm3 hlt3
              rw [← HR.out] at hp3
              have hlen : (lets (n + 1)).length = s.size + 1 := by rw [HR.out]; simp
              rw [hp3]
              clear hp3
              have hcv := conv_row2 (lets (n + 1)) w (.cells (brow (List.replicate s.size 97)) 5) (s.size + 1) hlen
              clear hlen
              go_wp2
              go_ret
              exact ⟨rfl, ((Grown.refl _).alloc _ _).alloc _ _⟩
        · obtain ⟨i, rfl⟩ : ∃ i, m = i + 1 := ⟨m - 1, by omega⟩
          obtain ⟨h1, h2, hli⟩ := st2_at HP.out HL.out hm2
          have hrg := lets_range n _ (List.getElem_mem h2)
          obtain ⟨c, hc⟩ : ∃ c : Nat, c = (lets n)[i] := ⟨_, rfl⟩
          have ha := brow_at l i h1
          rw [hli, ← hc] at ha
          rw [← hc] at hrg
          have HC : Hid (c = (lets n)[i]) := hc
          clear hc hli h1
          have ei : ((i + 1 : Nat) : Int) - 1 = (i : Int) := by omega
          rw [ei]
          clear ei
          have gi : (i : Int) < (s.size : Int) := by omega
          by_cases hz : c = 122
          · have hst : (brow l).setIfInBounds i (.int .u8 97) = brow (l.set i 97) := brow_set l i 97
            have hcb : ((c : Int) == 122) = true := by simp; omega
            have hp' := st2_z HP.out HL.out hm2 h2 (by rw [← HC.out]; exact hz)
            have HP' : Hid (P2 (lets n) s.size i (l.set i 97)) := hp'
            clear hp' hz HC h2 h0 HP
            go_wp2
            go_roundw
            case rel => exact ⟨i, _, by omega, rfl, rfl, HP'.out⟩
            case measure => simp [intOf]
          · have hcl : c < 122 := by omega
            have hcb : ((c : Int) == 122) = false := by simp; omega
            have hst : (brow l).setIfInBounds i (.int .u8 ((c : Int) + 1)) = brow (l.set i (c + 1)) := brow_set l i (c + 1)
            have hr : l.set i (c + 1) = lets (n + 1) := by
              have h := st2_stop HP.out HL.out hm2 h2 (by rw [← HC.out]; exact hcl)
              rw [← HC.out] at h
              exact h
            have hlen : (lets (n + 1)).length = s.size := by
              rw [← hr, List.length_set, HP.out.1]
              have := HL.out
              simp
              omega
            rw [hr] at hst
            have hcv := conv_row (lets (n + 1)) w s.size hlen
            clear hz HC h2 h0 HP hlen hr
            go_wp2
            go_ret
            exact ⟨rfl, (Grown.refl _).alloc _ _⟩
end Go.Proofs.Qxb6601871a.Letters
