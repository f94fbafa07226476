/-
  LawS6472BWhole: the row, out of the walks. The frame is the guide's (the proof skeleton's, turned to a slice of structs).
-/
import Derived.Test.YbulkeczyBLaw
import Derived.Test.YbulkeczyBLaw0
import Derived.ProofKit
import Derived.OpenShut
namespace Go.Proofs.Ybulkeczy.lawS6472BWhole
open Go.ChangeShapes Go.WideShapes Go.ChangeAt Go.RowKit
open Go.ChangeMaps (open_string shut_string)
set_option linter.unusedVariables false

theorem own : ownKnob Yba.prog.godebug = none := by kernel_rfl
theorem laidOut : laidOutB Yba.prog = true := by kernel_rfl
theorem cells32 : Yba.prog.cellsOf 32 = 6 := by kernel_rfl
theorem cells9 : Yba.prog.cellsOf 9 = 1 := by kernel_rfl
theorem cells4 : Yba.prog.cellsOf 4 = 1 := by kernel_rfl

theorem list6 {α : Type} (l : List α) (h : l.length = 6) : ∃ a b c d e f, l = [a, b, c, d, e, f] := by
  match l, h with
  | [a, b, c, d, e, f], _ => exact ⟨a, b, c, d, e, f, rfl⟩

/-- One element's six cells out of its reading. -/
theorem open_elem {H : Type} {enc : TypeId × Value → H} {W : World} {sp : Nat → Bool} {n : Nat} {cs : List Value} {y : DataW H × List MemPlace} (h : DataW.trod enc Yba.prog W 0 sp true n 32 cs = some y) :
    ∃ (x0 x1 x2 : ByteArray) (x3 : Bool) (x4 : ByteArray) (x5 : Bool), cs = [.string x0, .string x1, .string x2, .bool x3, .string x4, .bool x5] := by
  obtain ⟨xs, m, _, _, hl, hlen, hf⟩ := DataW.trod_struct Yba.underlying32 h
  rw [cells32] at hl
  obtain ⟨c0, c1, c2, c3, c4, c5, rfl⟩ := list6 cs hl
  have hsz : xs.length = 6 := hlen
  obtain ⟨y0, y1, y2, y3, y4, y5, rfl⟩ := list6 xs hsz
  have g0 := hf 0 _ rfl
  have g1 := hf 1 _ rfl
  have g2 := hf 2 _ rfl
  have g3 := hf 3 _ rfl
  have g4 := hf 4 _ rfl
  have g5 := hf 5 _ rfl
  simp [cells9, cells4] at g0 g1 g2 g3 g4 g5
  obtain ⟨x0, e0, _⟩ := DataW.trod_string Yba.underlying9 g0
  obtain ⟨x1, e1, _⟩ := DataW.trod_string Yba.underlying9 g1
  obtain ⟨x2, e2, _⟩ := DataW.trod_string Yba.underlying9 g2
  obtain ⟨x3, e3, _⟩ := DataW.trod_bool Yba.underlying4 g3
  obtain ⟨x4, e4, _⟩ := DataW.trod_string Yba.underlying9 g4
  obtain ⟨x5, e5, _⟩ := DataW.trod_bool Yba.underlying4 g5
  simp only [List.cons.injEq, and_true] at e0 e1 e2 e3 e4 e5
  subst e0 e1 e2 e3 e4 e5
  exact ⟨x0, x1, x2, x3, x4, x5, rfl⟩

/-- The walk, all ways joined. -/
theorem walk {H : Type} {enc : TypeId × Value → H} (ob rs : ByteArray) (a : Option Addr) (n cap : Nat) (nm : ByteArray) (pick : Int) (hp : 0 ≤ pick ∧ pick ≤ 255) (W : World) {d : DataW H} {p : List MemPlace}
    (h : DataW.Trod enc Yba.prog W 0 (fun _ => true) true 29 (.slice a n cap) d p) :
    Calls Yba.prog 4 #[.string ob, .string rs, .slice a n cap, .string nm, .int .u8 pick] W fun e w' => e = .returned (.bool true) ∧ Below W.heap.size W w' := by
  by_cases hbig : n ≤ 1048576
  · obtain ⟨fuel, hf⟩ := h
    rcases DataW.trod_slice Yba.underlying29 hf with ⟨hcs, _⟩ | ⟨a', len, cap', elems, rest, m, _, hcs, _, _, hl, hm, hlen, hel, _⟩
    · simp [Value.cells] at hcs
      obtain ⟨rfl, rfl, rfl⟩ := hcs
      exact law_nil ob rs nm pick W
    · simp [Value.cells] at hcs
      obtain ⟨rfl, rfl, rfl⟩ := hcs
      by_cases hn : 0 < n
      · have key : ∀ i, i < n → ∃ (x0 x1 x2 : ByteArray) (x3 : Bool) (x4 : ByteArray) (x5 : Bool), ∀ j, j < 6 → W.cell? ((a'.add (i * 6)).add j) = [Value.string x0, .string x1, .string x2, .bool x3, .string x4, .bool x5][j]? := by
          intro i hi
          have := hel i hi
          rw [cells32, List.getElem?_eq_getElem (by omega)] at this
          obtain ⟨cs', h1, h2⟩ := Option.bind_eq_some_iff.1 this
          obtain ⟨x0, x1, x2, x3, x4, x5, rfl⟩ := open_elem h2
          exact ⟨x0, x1, x2, x3, x4, x5, (World.cells?_some h1).2.2⟩
        obtain ⟨b, off, spot⟩ := a'
        have hspot : spot = none := by
          obtain ⟨x0, _, _, _, _, _, hk⟩ := key 0 hn
          have := World.cell?_spot (hk 0 (by omega))
          simpa [Addr.add] using this
        subst hspot
        have hP : Props W b off n := by
          intro i hi
          obtain ⟨x0, x1, x2, x3, x4, x5, hk⟩ := key i hi
          have ad : ∀ j, (({ block := b, off := off } : Addr).add (i * 6)).add j = ⟨b, off + i * 6 + j, none⟩ := by intro j; rw [Go.WideShapes.add_plain, Go.WideShapes.add_plain]
          exact ⟨x0, x1, x2, x3, x4, x5, by have := hk 0 (by omega); rwa [ad] at this, by have := hk 1 (by omega); rwa [ad] at this, by have := hk 2 (by omega); rwa [ad] at this, by have := hk 3 (by omega); rwa [ad] at this, by have := hk 4 (by omega); rwa [ad] at this, by have := hk 5 (by omega); rwa [ad] at this⟩
        have hb : b < W.heap.size := by
          obtain ⟨x0, x1, x2, x3, x4, x5, hk, _⟩ := hP 0 hn
          exact block_lt_of_cell hk
        exact law ob rs b off n cap nm pick hp.1 hp.2 W hn hbig hP hb
      · obtain rfl : n = 0 := by omega
        exact law_zero ob rs a' cap nm pick W
  · exact law_big ob rs a n cap nm pick W hbig

set_option maxRecDepth 100000 in
theorem lifted (os : Os) (started : os.Started) (H : Type) (enc : TypeId × Value → H) :
    ReturnsInHanded {} Yba.checked os 4 .any (Rows.lawS6472BWholeSpec.pre6 enc Yba.prog Yba.f4 Rows.lawS6472BWholeRow.domain false) (Rows.lawS6472BWholeSpec.post enc Yba.prog Yba.f4 false true false false) := by
  refine returnsInHanded_of_change (C := Yba.checked) own started (by kernel_rfl) Yba.func4
    (ChangeSpec.witness6 (enc := enc) (C := Yba.checked) false ⟨#[], #[.string ByteArray.empty, .string ByteArray.empty, .slice none 0 0, .string ByteArray.empty, .int .u8 0], []⟩ 8 (by kernel_rfl) (by kernel_rfl) (by kernel_rfl) (by kernel_rfl)) ?_
  intro W base args ds gs before hval0 hW hcnd _
  have hval : ∀ (j : Nat) t v, Yba.f4.params[j]? = some t → args[j]? = some v → Value.okWide Yba.prog W .any base t v := hval0
  have hW' := hW
  obtain ⟨p, q, hA0, hV, rfl, hfz, hnd⟩ := hW
  have hA : DataW.TrodAll enc Yba.prog W 0 (fun _ => true) true Yba.f4.params.toList args.toList ds p := hA0
  rw [Yba.params4] at hA hval
  obtain ⟨v0, vs0, d0, ds0, p0, q0, hargs, rfl, rfl, h0, r0⟩ := trodAll_cons hA
  obtain ⟨v1, vs1, d1, ds1, p1, q1, rfl, rfl, rfl, h1, r1⟩ := trodAll_cons r0
  obtain ⟨v2, vs2, d2, ds2, p2, q2, rfl, rfl, rfl, h2, r2⟩ := trodAll_cons r1
  obtain ⟨v3, vs3, d3, ds3, p3, q3, rfl, rfl, rfl, h3, r3⟩ := trodAll_cons r2
  obtain ⟨v4, vs4, d4, ds4, p4, q4, rfl, rfl, rfl, h4, r4⟩ := trodAll_cons r3
  obtain ⟨rfl, rfl, rfl⟩ := trodAll_nil r4
  obtain rfl : args = #[v0, v1, v2, v3, v4] := by cases args; simp_all
  obtain ⟨rfl, rfl⟩ := trodVars_none hV
  obtain ⟨a0, rfl, rfl, rfl, w0⟩ := open_string Yba.underlying9 (hval 0 9 v0 rfl rfl) h0
  obtain ⟨a1, rfl, rfl, rfl, w1⟩ := open_string Yba.underlying9 (hval 1 9 v1 rfl rfl) h1
  obtain ⟨a2, len2, cap2, rfl⟩ := okWide_slice Yba.underlying29 (hval 2 29 v2 rfl rfl)
  obtain ⟨a3, rfl, rfl, rfl, w3⟩ := open_string Yba.underlying9 (hval 3 9 v3 rfl rfl) h3
  obtain ⟨a4, rfl, rfl, rfl, w4⟩ := open_int Yba.underlying5 (hval 4 5 v4 rfl rfl) h4
  have lt2 : ∀ x ∈ p2, x.block < W.heap.size := by obtain ⟨m, hm⟩ := h2; exact DataW.trod_lt m _ _ _ hm
  clear hA0 hval0
  refine (walk a0 a1 a2 len2 cap2 a3 a4 (bounds_u8 w4) W h2).mono fun e W' ⟨he, bel⟩ => ?_
  subst he
  exact ⟨_, rfl, _, _, _, [], _, [], hW', trodAll_mk1 (shut_bool Yba.underlying4 _), (trodAll_cons_mk (shut_string Yba.underlying9 w0) (trodAll_cons_mk (shut_string Yba.underlying9 w1) (trodAll_cons_mk (Below.trod laidOut (by kernel_rfl) (of_decide_eq_true (by kernel_rfl)) h2 bel lt2) (trodAll_cons_mk (shut_string Yba.underlying9 w3) (trodAll_cons_mk (shut_int Yba.underlying5 w4) trodAll_mk0))))), rfl, bel.frame _, fun h => by cases h⟩

theorem over : Rows.lawS6472BWholeRow.holds Yba.pinned (OpenSpec.ofChange Rows.lawS6472BWholeSpec) :=
  OpenClaim.holds_of_wide 4 Yba.f4 rfl rfl rfl rfl rfl rfl rfl ⟨rfl, rfl, rfl, rfl, rfl⟩ rfl rfl rfl rfl rfl (by kernel_rfl) Yba.func4 (by kernel_rfl)
    (of_decide_eq_true (by kernel_rfl)) (by unfold Func.isWrapper; first | (rw [if_pos (by decide +kernel)]; kernel_rfl) | (rw [if_neg (by decide +kernel)]; exact ⟨rfl, rfl⟩))
    (fun os started H enc _ => lifted os started H enc)

theorem proved : Rows.LawS6472BWholeSaid := over
end Go.Proofs.Ybulkeczy.lawS6472BWhole
