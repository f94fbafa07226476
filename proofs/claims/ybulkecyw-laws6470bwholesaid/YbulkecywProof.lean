/-
  LawS6470BWhole: the row, out of the walks. The frame is the guide's (the proof skeleton's, turned to a slice of structs).
-/
import Derived.Test.YbulkecywLaw
import Derived.Test.YbulkecywLaw0
import Derived.ProofKit
import Derived.OpenShut
namespace Go.Proofs.Ybulkecyw.lawS6470BWhole
open Go.ChangeShapes Go.WideShapes Go.ChangeAt Go.RowKit
set_option linter.unusedVariables false

theorem own : ownKnob Yba.prog.godebug = none := by kernel_rfl
theorem laidOut : laidOutB Yba.prog = true := by kernel_rfl
theorem cells40 : Yba.prog.cellsOf 40 = 3 := by kernel_rfl
theorem cells5 : Yba.prog.cellsOf 5 = 1 := by kernel_rfl
theorem cells3 : Yba.prog.cellsOf 3 = 1 := by kernel_rfl

theorem list3 {α : Type} (l : List α) (h : l.length = 3) : ∃ a b c, l = [a, b, c] := by
  match l, h with
  | [a, b, c], _ => exact ⟨a, b, c, rfl⟩

/-- One element's three cells out of its reading. -/
theorem open_elem {H : Type} {enc : TypeId × Value → H} {W : World} {sp : Nat → Bool} {n : Nat} {cs : List Value} {y : DataW H × List MemPlace} (h : DataW.trod enc Yba.prog W 0 sp true n 40 cs = some y) :
    ∃ (x0 x1 x2 : Int), (0 ≤ x0 ∧ x0 ≤ 255) ∧ (0 ≤ x1 ∧ x1 ≤ 255) ∧ cs = [.int .u8 x0, .int .u8 x1, .int .i64 x2] := by
  obtain ⟨xs, m, _, _, hl, hlen, hf⟩ := DataW.trod_struct Yba.underlying40 h
  rw [cells40] at hl
  obtain ⟨c0, c1, c2, rfl⟩ := list3 cs hl
  have hsz : xs.length = 3 := hlen
  obtain ⟨y0, y1, y2, rfl⟩ := list3 xs hsz
  have g0 := hf 0 _ rfl
  have g1 := hf 1 _ rfl
  have g2 := hf 2 _ rfl
  simp [cells5, cells3] at g0 g1 g2
  obtain ⟨x0, e0, _, w0⟩ := DataW.trod_int Yba.underlying5 g0
  obtain ⟨x1, e1, _, w1⟩ := DataW.trod_int Yba.underlying5 g1
  obtain ⟨x2, e2, _, _⟩ := DataW.trod_int Yba.underlying3 g2
  simp only [List.cons.injEq, and_true] at e0 e1 e2
  subst e0 e1 e2
  exact ⟨x0, x1, x2, bounds_u8 w0, bounds_u8 w1, rfl⟩

/-- The walk, all ways joined. -/
theorem walk {H : Type} {enc : TypeId × Value → H} (a : Option Addr) (n cap : Nat) (W : World) {d : DataW H} {p : List MemPlace}
    (h : DataW.Trod enc Yba.prog W 0 (fun _ => true) true 22 (.slice a n cap) d p) :
    Calls Yba.prog 3 #[.slice a n cap] W fun e w' => e = .returned (.bool true) ∧ Below W.heap.size W w' := by
  by_cases hbig : n ≤ 65536
  · obtain ⟨fuel, hf⟩ := h
    rcases DataW.trod_slice Yba.underlying22 hf with ⟨hcs, _⟩ | ⟨a', len, cap', elems, rest, m, _, hcs, _, _, hl, hm, hlen, hel, _⟩
    · simp [Value.cells] at hcs
      obtain ⟨rfl, rfl, rfl⟩ := hcs
      exact law_zero none 0 W
    · simp [Value.cells] at hcs
      obtain ⟨rfl, rfl, rfl⟩ := hcs
      by_cases hn : 0 < n
      · have key : ∀ i, i < n → ∃ (x0 x1 x2 : Int), (0 ≤ x0 ∧ x0 ≤ 255) ∧ (0 ≤ x1 ∧ x1 ≤ 255) ∧ ∀ j, j < 3 → W.cell? ((a'.add (i * 3)).add j) = [Value.int .u8 x0, .int .u8 x1, .int .i64 x2][j]? := by
          intro i hi
          have := hel i hi
          rw [cells40, List.getElem?_eq_getElem (by omega)] at this
          obtain ⟨cs', h1, h2⟩ := Option.bind_eq_some_iff.1 this
          obtain ⟨x0, x1, x2, b0, b1, rfl⟩ := open_elem h2
          exact ⟨x0, x1, x2, b0, b1, (World.cells?_some h1).2.2⟩
        obtain ⟨b, off, spot⟩ := a'
        have hspot : spot = none := by
          obtain ⟨x0, _, _, _, _, hk⟩ := key 0 hn
          have := World.cell?_spot (hk 0 (by omega))
          simpa [Addr.add] using this
        subst hspot
        have hP : Steps W b off n := by
          intro i hi
          obtain ⟨x0, x1, x2, b0, b1, hk⟩ := key i hi
          have ad : ∀ j, (({ block := b, off := off } : Addr).add (i * 3)).add j = ⟨b, off + i * 3 + j, none⟩ := by intro j; rw [Go.WideShapes.add_plain, Go.WideShapes.add_plain]
          exact ⟨x0, x1, x2, b0, b1, by have := hk 0 (by omega); rwa [ad] at this, by have := hk 1 (by omega); rwa [ad] at this, by have := hk 2 (by omega); rwa [ad] at this⟩
        have hb : b < W.heap.size := by
          obtain ⟨x0, x1, x2, _, _, hk, _⟩ := hP 0 hn
          exact block_lt_of_cell hk
        exact law b off n cap W hbig hP (fun _ => hb)
      · obtain rfl : n = 0 := by omega
        exact law_zero (some a') cap W
  · exact law_big a n cap W hbig

set_option maxRecDepth 100000 in
theorem lifted (os : Os) (started : os.Started) (H : Type) (enc : TypeId × Value → H) :
    ReturnsInHanded {} Yba.checked os 3 .any (Rows.lawS6470BWholeSpec.pre6 enc Yba.prog Yba.f3 Rows.lawS6470BWholeRow.domain false) (Rows.lawS6470BWholeSpec.post enc Yba.prog Yba.f3 false true false false) := by
  refine returnsInHanded_of_change (C := Yba.checked) own started (by kernel_rfl) Yba.func3
    (ChangeSpec.witness6 (enc := enc) (C := Yba.checked) false ⟨#[], #[.slice none 0 0], []⟩ 8 (by kernel_rfl) (by kernel_rfl) (by kernel_rfl) (by kernel_rfl)) ?_
  intro W base args ds gs before hval0 hW hcnd _
  have hval : ∀ (j : Nat) t v, Yba.f3.params[j]? = some t → args[j]? = some v → Value.okWide Yba.prog W .any base t v := hval0
  have hW' := hW
  obtain ⟨p, q, hA0, hV, rfl, hfz, hnd⟩ := hW
  have hA : DataW.TrodAll enc Yba.prog W 0 (fun _ => true) true Yba.f3.params.toList args.toList ds p := hA0
  rw [Yba.params3] at hA hval
  obtain ⟨v0, d0, rfl, rfl, h0⟩ := trodAll_one hA
  obtain ⟨rfl, rfl⟩ := trodVars_none hV
  obtain ⟨a0, len0, cap0, rfl⟩ := okWide_slice Yba.underlying22 (hval 0 22 v0 rfl rfl)
  have lt0 : ∀ x ∈ p, x.block < W.heap.size := by obtain ⟨m, hm⟩ := h0; exact DataW.trod_lt m _ _ _ hm
  clear hA0 hval0
  refine (walk a0 len0 cap0 W h0).mono fun e W' ⟨he, bel⟩ => ?_
  subst he
  exact ⟨_, rfl, _, _, _, [], _, [], hW', trodAll_mk1 (shut_bool Yba.underlying4 _), trodAll_mk1 (Below.trod laidOut (by kernel_rfl) (of_decide_eq_true (by kernel_rfl)) h0 bel lt0), rfl, bel.frame _, fun h => by cases h⟩

theorem over : Rows.lawS6470BWholeRow.holds Yba.pinned (OpenSpec.ofChange Rows.lawS6470BWholeSpec) :=
  OpenClaim.holds_of_wide 3 Yba.f3 rfl rfl rfl rfl rfl rfl rfl ⟨rfl, rfl, rfl, rfl, rfl⟩ rfl rfl rfl rfl rfl (by kernel_rfl) Yba.func3 (by kernel_rfl)
    (of_decide_eq_true (by kernel_rfl)) (by unfold Func.isWrapper; first | (rw [if_pos (by decide +kernel)]; kernel_rfl) | (rw [if_neg (by decide +kernel)]; exact ⟨rfl, rfl⟩))
    (fun os started H enc _ => lifted os started H enc)

theorem proved : Rows.LawS6470BWholeSaid := over
end Go.Proofs.Ybulkecyw.lawS6470BWhole
