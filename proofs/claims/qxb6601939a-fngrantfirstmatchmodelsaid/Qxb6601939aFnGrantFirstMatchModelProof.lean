/-
  THE PROOF OF 'Rows.FnGrantFirstMatchModelSaid': the row's step, typed by hand after the guide's template: a slice of structs of five fields and three strings.
-/
import Derived.Test.Qxb6601939aGrantD
import Derived.WalkKit
import Derived.ProofKit
import Derived.OpenShut
import Derived.ShutString
import Derived.ChangeOld
import Derived.Below
import Derived.Deep.Slices
namespace Go.Proofs.Qxb6601939a.fnGrantFirstMatchModel
open Go.ChangeShapes Go.ChangeAt Go.RowKit Grant
open Go.ChangeMaps (open_string shut_string)

theorem own : ownKnob Try.prog.godebug = none := by kernel_rfl
theorem laidOut : laidOutB Try.prog = true := by kernel_rfl
theorem cells36 : Try.prog.cellsOf 36 = 5 := by kernel_rfl
theorem cells9 : Try.prog.cellsOf 9 = 1 := by kernel_rfl
theorem cells4 : Try.prog.cellsOf 4 = 1 := by kernel_rfl

theorem plain_add (b off i : Nat) : (⟨b, off, none⟩ : Addr).add i = ⟨b, off + i, none⟩ := by unfold Addr.add; split <;> simp_all

/-- One record, out of its five cells. -/
theorem open_rec {H : Type} {enc : TypeId × Value → H} {W : World} {n : Nat} {cs : List Value} {x : DataW H × List MemPlace} (hl : cs.length = 5)
    (h : DataW.trod enc Try.prog W 0 (fun _ => true) true n 36 cs = some x) : ∃ r : Rc, r.small ∧ cs = [.string r.a, .string r.b, .string r.c, .bool r.d, .bool r.e] := by
  obtain ⟨xs, k, _, _, _, hxl, hf⟩ := DataW.trod_struct Try.underlying36 h
  match xs, hxl, cs, hl with
  | [y0, y1, y2, y3, y4], _, [v0, v1, v2, v3, v4], _ =>
    have g0 := hf 0 _ rfl
    have g1 := hf 1 _ rfl
    have g2 := hf 2 _ rfl
    have g3 := hf 3 _ rfl
    have g4 := hf 4 _ rfl
    simp [cells9, cells4] at g0 g1 g2 g3 g4
    obtain ⟨s0, e0, _, m0⟩ := DataW.trod_string Try.underlying9 g0
    obtain ⟨s1, e1, _, m1⟩ := DataW.trod_string Try.underlying9 g1
    obtain ⟨s2, e2, _, m2⟩ := DataW.trod_string Try.underlying9 g2
    obtain ⟨b3, e3, _⟩ := DataW.trod_bool Try.underlying4 g3
    obtain ⟨b4, e4, _⟩ := DataW.trod_bool Try.underlying4 g4
    simp at e0 e1 e2 e3 e4
    subst e0 e1 e2 e3 e4
    exact ⟨⟨s0, s1, s2, b3, b4⟩, ⟨m0, m1, m2⟩, rfl⟩

/-- The slice of records that came in: empty, or a row of records. -/
theorem open_recs {H : Type} {enc : TypeId × Value → H} {W : World} {a : Option Addr} {len cap : Nat} {d : DataW H} {ps : List MemPlace}
    (hd : DataW.Trod enc Try.prog W 0 (fun _ => true) true 22 (.slice a len cap) d ps) :
    (len = 0 ∧ (a = none → cap = 0)) ∨ ∃ (b off : Nat) (R : Nat → Rc), a = some ⟨b, off, none⟩ ∧ len ≤ maxLen ∧ (∀ i, i < len → RowAt W b off R i) ∧ (∀ i, (R i).small) ∧ b < W.heap.size := by
  obtain ⟨fuel, hf⟩ := hd
  rcases Deep.open_slice Try.underlying22 hf with ⟨hcs, _⟩ | ⟨x, l, c, m, n, D, Pl, hcs, _, hl, hm, hmm, _, hx⟩
  · simp [Value.cells] at hcs
    obtain ⟨rfl, rfl, rfl⟩ := hcs
    exact .inl ⟨rfl, fun _ => rfl⟩
  · simp [Value.cells] at hcs
    obtain ⟨rfl, rfl, rfl⟩ := hcs
    by_cases h0 : len = 0
    · exact .inl ⟨h0, fun h => by cases h⟩
    · right
      simp at hmm
      subst hmm
      have each : ∀ i, i < len → ∃ r : Rc, r.small ∧ ∀ j v, [Value.string r.a, .string r.b, .string r.c, .bool r.d, .bool r.e][j]? = some v → W.cell? (x.add (i * 5 + j)) = some v := by
        intro i hi
        obtain ⟨cs', h1, h2⟩ := hx i (by omega)
        rw [cells36] at h1
        obtain ⟨_, hlen, hcell⟩ := World.cells?_some h1
        obtain ⟨r, hr, rfl⟩ := open_rec hlen h2
        refine ⟨r, hr, fun j v hj => ?_⟩
        have hj5 : j < 5 := by
          rcases Nat.lt_or_ge j 5 with h | h
          · exact h
          · rw [List.getElem?_eq_none (by simpa using h)] at hj
            cases hj
        rw [← Deep.add_add, hcell j hj5]
        exact hj
      haveI : Inhabited Rc := ⟨zeroRc⟩
      obtain ⟨f, hf'⟩ := Deep.choose_lt each
      obtain ⟨b, off, spot⟩ := x
      have hc0 := (hf' 0 (by omega)).2 0 _ rfl
      have hspot : spot = none := by simpa [Addr.add] using World.cell?_spot hc0
      subst hspot
      have hb : b < W.heap.size := by
        have := World.block_lt_of_cell? _ _ hc0
        simpa [Addr.add] using this
      have small0 : zeroRc.small := by unfold Rc.small zeroRc; decide
      refine ⟨b, off, fun i => if i < len then f i else zeroRc, rfl, by omega, fun i hi => ?_, fun i => ?_, hb⟩
      · have g := (hf' i hi).2
        have k0 := g 0 _ rfl
        have k1 := g 1 _ rfl
        have k2 := g 2 _ rfl
        have k3 := g 3 _ rfl
        have k4 := g 4 _ rfl
        rw [plain_add] at k0 k1 k2 k3 k4
        unfold RowAt
        simp only [if_pos hi]
        exact ⟨k0, k1, k2, k3, k4⟩
      · show (if i < len then f i else zeroRc).small
        by_cases hi : i < len
        · rw [if_pos hi]; exact (hf' i hi).1
        · rw [if_neg hi]; exact small0

set_option maxRecDepth 100000 in
theorem lifted (os : Os) (started : os.Started) (H : Type) (enc : TypeId × Value → H) :
    ReturnsInHanded {} Try.checked os 3 .any (Rows.fnGrantFirstMatchModelSpec.pre6 enc Try.prog Try.f3 Rows.fnGrantFirstMatchModelRow.domain false) (Rows.fnGrantFirstMatchModelSpec.post enc Try.prog Try.f3 false true false false) := by
  refine returnsInHanded_of_change (C := Try.checked) own started (by kernel_rfl) Try.func3
    (ChangeSpec.witness6 (enc := enc) (C := Try.checked) false ⟨#[], #[.slice none 0 0, .string ⟨#[]⟩, .string ⟨#[]⟩, .string ⟨#[]⟩], []⟩ 8 (by kernel_rfl) (by kernel_rfl) (by kernel_rfl) (by kernel_rfl)) ?_
  intro W base args ds gs before hval0 hW hcnd _
  have hval : ∀ (j : Nat) t v, Try.f3.params[j]? = some t → args[j]? = some v → Value.okWide Try.prog W .any base t v := hval0
  have hW' := hW
  obtain ⟨p, q, hA0, hV, rfl, hfz, hnd⟩ := hW
  have hA : DataW.TrodAll enc Try.prog W 0 (fun _ => true) true Try.f3.params.toList args.toList ds p := hA0
  rw [Try.params3] at hA hval
  obtain ⟨v0, vs0, d0, ds0, p0, q0, hargs, rfl, rfl, h0, r0⟩ := trodAll_cons hA
  obtain ⟨v1, vs1, d1, ds1, p1, q1, rfl, rfl, rfl, h1, r1⟩ := trodAll_cons r0
  obtain ⟨v2, vs2, d2, ds2, p2, q2, rfl, rfl, rfl, h2, r2⟩ := trodAll_cons r1
  obtain ⟨v3, vs3, d3, ds3, p3, q3, rfl, rfl, rfl, h3, r3⟩ := trodAll_cons r2
  obtain ⟨rfl, rfl, rfl⟩ := trodAll_nil r3
  obtain rfl : args = #[v0, v1, v2, v3] := by cases args; simp_all
  obtain ⟨rfl, rfl⟩ := trodVars_none hV
  have lt0 : ∀ x ∈ p0, x.block < W.heap.size := by obtain ⟨m, hm⟩ := h0; exact DataW.trod_lt m _ _ _ hm
  obtain ⟨a, len, cap, rfl⟩ := WideShapes.okWide_slice Try.underlying22 (hval 0 22 v0 rfl rfl)
  obtain ⟨x, rfl, rfl, rfl, hx⟩ := open_string Try.underlying9 (hval 1 9 v1 rfl rfl) h1
  obtain ⟨y, rfl, rfl, rfl, hy⟩ := open_string Try.underlying9 (hval 2 9 v2 rfl rfl) h2
  obtain ⟨z, rfl, rfl, rfl, hz⟩ := open_string Try.underlying9 (hval 3 9 v3 rfl rfl) h3
  clear hA0 hval0
  have walk : Calls Try.prog 3 #[.slice a len cap, .string x, .string y, .string z] W fun e w' => e = .returned (.bool true) ∧ Below W.heap.size W w' := by
    rcases open_recs h0 with ⟨rfl, hn⟩ | ⟨b, off, R, rfl, hl, hr, hs, hb⟩
    · exact main_none a cap hn x y z W hx hy hz
    · exact main_some b off len cap R x y z W hl hr hs hx hy hz hb
  refine walk.mono fun e W' ⟨he, bel⟩ => ?_
  subst he
  exact ⟨_, rfl, _, _, _, [], _, [], hW', trodAll_mk1 (shut_bool Try.underlying4 _), (trodAll_cons_mk (Below.trod laidOut (by kernel_rfl) (of_decide_eq_true (by kernel_rfl)) h0 bel lt0) (trodAll_cons_mk (shut_string Try.underlying9 hx) (trodAll_cons_mk (shut_string Try.underlying9 hy) (trodAll_cons_mk (shut_string Try.underlying9 hz) trodAll_mk0)))), rfl, bel.frame _, fun h => by cases h⟩

theorem over : Rows.fnGrantFirstMatchModelRow.holds Try.pinned (OpenSpec.ofChange Rows.fnGrantFirstMatchModelSpec) :=
  OpenClaim.holds_of_wide 3 Try.f3 rfl rfl rfl rfl rfl rfl rfl ⟨rfl, rfl, rfl, rfl, rfl⟩ rfl rfl rfl rfl rfl (by kernel_rfl) Try.func3 (by kernel_rfl)
    (of_decide_eq_true (by kernel_rfl)) (by unfold Func.isWrapper; first | (rw [if_pos (by decide +kernel)]; kernel_rfl) | (rw [if_neg (by decide +kernel)]; exact ⟨rfl, rfl⟩))
    (fun os started H enc _ => lifted os started H enc)

/-- ████ THE STATEMENT ████ -/
theorem proved : Rows.FnGrantFirstMatchModelSaid := over
#print axioms proved
end Go.Proofs.Qxb6601939a.fnGrantFirstMatchModel
