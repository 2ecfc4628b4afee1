/-
  THE WALK OF 'letters' (10) AND ITS SHIM (6): the string of the base-26 numeral 'lets n'; one new block.
-/
import Derived.Test.Qxb6601871aRows
import Derived.Test.Qxb6601871aPlain
import Derived.WalkKit
import Derived.WalkSpells
import Derived.ProofKit
import Derived.Laws.BytesArg
namespace Go.Proofs.Qxb6601871a.Letters
open Go.RowKit Pl

/-- The bytes of a list of numbers, as a Go string. -/
def bstr (l : List Nat) : ByteArray := ⟨(l.map UInt8.ofNat).toArray⟩

def arrOf (m : Nat) (tl : List Nat) : Array Value := (List.replicate m (Value.int .u8 0) ++ tl.map (fun d : Nat => Value.int .u8 (d : Int))).toArray

theorem arr_step (m x : Nat) (tl : List Nat) : (arrOf (m + 1) tl).setIfInBounds m (Value.int .u8 (97 + (x : Int) % 26)) = arrOf m ((97 + x % 26) :: tl) := by
  unfold arrOf
  have e : (Value.int .u8 (97 + (x : Int) % 26)) = Value.int .u8 ((97 + x % 26 : Nat) : Int) := by congr 1
  rw [e, List.setIfInBounds_toArray, List.replicate_succ', List.append_assoc, List.set_append_right _ _ (by simp)]
  simp

theorem arr_at (m : Nat) (tl : List Nat) : (arrOf (m + 1) tl)[m]? = some (.int .u8 0) := by
  unfold arrOf
  simp only [List.getElem?_toArray]
  rw [List.getElem?_append_left (by simp)]
  simp

theorem arr_cell (m : Nat) (tl : List Nat) (w : World) (i : Nat) (h : i < tl.length) : (w.alloc (.cells (arrOf m tl) 31)).cell? ⟨w.heap.size, m + i, none⟩ = some (.int .u8 ((tl.map fun d : Nat => (d : Int)).getD i 0)) := by
  have : (arrOf m tl)[m + i]? = some (.int .u8 ((tl.map fun d : Nat => (d : Int)).getD i 0)) := by
    unfold arrOf
    simp only [List.getElem?_toArray]
    rw [List.getElem?_append_right (by simp)]
    simp [h]
  simp [this]

theorem strOf_bstr (l : List Nat) : strOfNums (l.map fun d : Nat => (d : Int)) = bstr l := by
  unfold strOfNums bstr
  simp

theorem conv (m : Nat) (tl : List Nat) (w : World) (hl : tl.length = 14 - m) :
    (convert 30 9 (.slice (some ⟨w.heap.size, m, none⟩) (14 - m) (14 - m))).run Try.prog (w.alloc (.cells (arrOf m tl) 31)) = .ok (.string (bstr tl)) (w.alloc (.cells (arrOf m tl) 31)) := by
  rw [run_convert_bytes_arg (P := Try.prog) _ 30 5 Try.underlying30 Try.underlying5 w.heap.size m (14 - m) (14 - m) (tl.map fun d : Nat => (d : Int)) (by simpa using hl) (fun i hi => arr_cell m tl w i (by omega)) 9 Try.underlying9, strOf_bstr]

theorem slc (m : Nat) (w W : World) (hm : m ≤ 13) : (Instr.sliceAt 31 (.pointer (some ⟨w.heap.size, 0, none⟩)) (some (.int .i64 (m : Int))) none none).run Try.prog W = .ok (.slice (some ⟨w.heap.size, m, none⟩) (14 - m) (14 - m)) W := by
  have hal : Try.prog.arrayLen 31 = 14 := by simp [Program.arrayLen, Try.underlying31]
  rw [run_sliceAt_array_l W 31 ⟨w.heap.size, 0, none⟩ (by simp [Program.arrayLen, Program.elem, Try.underlying31]) .i64 (m : Int) (by omega) (by rw [hal]; omega)]
  go_simp
  omega

theorem ret_val {a b : Nat} (h : a = b) : Ending.returned (.tuple #[.int .u64 (a : Int), .bool true]) = .returned (.tuple #[.int .u64 (b : Int), .bool true]) := by rw [h]

theorem ret_str {a b : ByteArray} (h : a = b) : Ending.returned (.string a) = .returned (.string b) := by rw [h]

set_option maxHeartbeats 400000 in
theorem letters_any (n : Nat) (hn : n < 18446744073709551616) (w : World) :
    Calls Try.prog 10 #[.int .u64 n] w fun e w' => e = .returned (.string (bstr (lets n))) ∧ ∃ arr, w' = w.alloc (.cells arr 31) := by
  go_enter Try.func10, Try.ntmps10
  go_wp2
  go_loopw [0, 4] (fun nv iv wr => ∃ (m x : Nat) (tl : List Nat), m ≤ 13 ∧ x < 26 ^ (m + 1) ∧ x < 18446744073709551616 ∧ tl.length + m = 13 ∧ nv = .int .u64 (x : Int) ∧ iv = .int .i64 ((m : Int) + 1) ∧ wr = w.alloc (.cells (arrOf (m + 1) tl) 31) ∧ lets x ++ tl = lets n) (fun _ i _ => (intOf i).toNat)
  case atStart => exact ⟨13, n, [], by omega, Nat.lt_trans hn (by decide), hn, rfl, rfl, rfl, rfl, by simp⟩
  case round =>
    obtain ⟨m, x, tl, hm, hx, hx2, htl, rfl, rfl, rfl, hinv⟩ := hrel
    have HI : Hid (lets x ++ tl = lets n) := hinv
    have HX : Hid (x < 26 ^ (m + 1)) := hx
    have ha := arr_at m tl
    have hs := fun W => slc m w W hm
    have hst := arr_step m x tl
    have hc := conv m ((97 + x % 26) :: tl) w (by simp; omega)
    clear hinv hx
    go_wp2
    · have hx0 : x < 26 := by
        have : ((x : Int) / 26 == 0) = true := by assumption
        simp at this
        omega
      have e : (97 + x % 26) :: tl = lets n := by
        rw [← HI.out, lets_small hx0, Nat.mod_eq_of_lt hx0]
        rfl
      go_ret
      exact ⟨ret_str (congrArg bstr e), _, rfl⟩
    · have hx0 : 26 ≤ x := by
        have : ((x : Int) / 26 == 0) = false := by assumption
        simp at this
        omega
      have hm0 : m ≠ 0 := fun h => by
        subst h
        have := HX.out
        omega
      obtain ⟨k, rfl⟩ : ∃ k, m = k + 1 := ⟨m - 1, by omega⟩
      go_round
      case rel =>
        refine ⟨k, x / 26, (97 + x % 26) :: tl, by omega, ?_, by omega, by simp; omega, by go_num, by go_num, rfl, ?_⟩
        · rw [Nat.div_lt_iff_lt_mul (by omega), ← Nat.pow_succ]
          exact HX.out
        · rw [← HI.out, lets_big hx0]
          simp
      case measure => simp [intOf]; omega

theorem zz_any (n : Nat) (hn : n < 18446744073709551616) (w : World) :
    Calls Try.prog 6 #[.int .u64 n] w fun e w' => e = .returned (.string (bstr (lets n))) ∧ ∃ arr, w' = w.alloc (.cells arr 31) := by
  go_enter Try.func6, Try.ntmps6
  go_wp2_with (go_at_call 10; refine (letters_any n hn _).mono ?_; rintro e w' ⟨rfl, arr, rfl⟩)
  go_ret
  exact ⟨rfl, arr, rfl⟩

theorem bstr_size (l : List Nat) : (bstr l).size = l.length := by simp [bstr, ByteArray.size]

theorem bstr_at (l : List Nat) (hr : ∀ c ∈ l, 97 ≤ c ∧ c ≤ 122) (k : Nat) (h : k < (bstr l).size) (h' : k < l.length) : (bstr l)[k].toNat = l[k] := by
  have hk := hr l[k] (List.getElem_mem h')
  have e : (bstr l).data.toList[k]? = some (bstr l)[k] := by
    rw [List.getElem?_eq_getElem (by simpa using h)]
    rfl
  have e2 : (bstr l).data.toList[k]? = some (UInt8.ofNat l[k]) := by
    show ((l.map UInt8.ofNat).toArray.toList)[k]? = _
    simp [h']
  rw [e2] at e
  have e3 := Option.some.inj e
  rw [← e3]
  simp
  omega

end Go.Proofs.Qxb6601871a.Letters
