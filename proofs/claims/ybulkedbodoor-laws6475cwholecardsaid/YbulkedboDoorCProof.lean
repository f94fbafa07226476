/-
  LawS6475CWhole: the row (from the walks), and its tied card. The frame is the guide's (Mapy, Tab6, Balanced, the proof skeleton) at this function's number and types.
-/
import Derived.Test.YbulkedboDoorRows
import Derived.Test.YbulkedboDoorTie
import Derived.Test.YbulkedboDoorCards
import Derived.Test.YbulkedboDoorCWalks
import Derived.ProofKit
import Derived.LaidMore
import Derived.Lay
import Derived.OpenShut
import Derived.Stop.Joined
import Derived.SevenTiedAt
namespace Go.Proofs.YbulkedboDoor
open Go.ChangeShapes Go.WideShapes Go.ChangeAt Go.RowKit

theorem own : ownKnob Ybad.prog.godebug = none := by kernel_rfl
theorem laidOut : laidOutB Ybad.prog = true := by kernel_rfl
abbrev mdName : String := Rows.lawS6475CWholeRow.named.headD default
theorem gMd : Ybad.prog.globalNamed mdName = some 0 := by kernel_rfl
theorem tMd : (Ybad.prog.globals[0]?).map (·.type) = some 33 := by kernel_rfl
theorem cells3 : Ybad.prog.cellsOf 3 = 1 := by kernel_rfl
theorem cells33 : Ybad.prog.cellsOf 33 = 10 := by kernel_rfl
abbrev laidL {H : Type} : List (String × DataW H) := [(mdName, Rows.laid_example_com_computus_computus_monthDays)]

theorem laid_get {H : Type} (i : Nat) (h : i < 10) : ([.lit (.int .i64 31), .lit (.int .i64 30), .lit (.int .i64 31), .lit (.int .i64 30), .lit (.int .i64 31), .lit (.int .i64 31), .lit (.int .i64 30), .lit (.int .i64 31), .lit (.int .i64 30), .lit (.int .i64 31)] : List (DataW H))[i]? = some (.lit (.int .i64 (md i))) := by
  rcases nat10 i (by omega) with rfl | rfl | rfl | rfl | rfl | rfl | rfl | rfl | rfl | rfl <;> rfl

set_option maxRecDepth 100000 in
/-- What the condition gives the walks: the ten cells of monthDays. -/
theorem of_laid {W : World} (h : laidMetH Ybad.prog laidL W) : ∀ i, i < 10 → W.cell? ⟨0, i, none⟩ = some (.int .i64 (md i)) := by
  rw [MakeChecks.laidMetH_plain _ _ _ (by kernel_rfl)] at h
  obtain ⟨ps, ⟨g0, t0, cs0, f0, p0, q0, hg0, ht0, hv0, hd0, _, _⟩, _, _⟩ := h
  obtain rfl := Option.some.inj (gMd.symm.trans hg0)
  obtain rfl := Option.some.inj (tMd.symm.trans ht0)
  obtain ⟨xs, m, _, hx, hl, hn, hel⟩ := DataW.trod_array Ybad.underlying33 hd0
  intro i hi
  rw [World.var?_cell hg0 hv0 i]
  have he := hel i hi
  rw [cells3, Nat.mul_one, List.getElem?_eq_getElem (by omega)] at he
  obtain ⟨z, e1, e2, _⟩ := DataW.trod_int Ybad.underlying3 he
  have hz : z = md i := by
    have h1 : (xs.map (·.1))[i]? = some (.lit (.int .i64 z)) := by
      rw [List.getElem?_map, List.getElem?_eq_getElem (by omega), e2]; rfl
    simp only [Rows.laid_example_com_computus_computus_monthDays, Prod.mk.injEq, DataW.agg.injEq] at hx
    rw [← hx.1, laid_get i hi] at h1
    simpa using h1.symm
  subst hz
  have : (cs0.toList.drop i)[0]? = some (.int .i64 (md i)) := by
    have h2 : ((cs0.toList.drop i).take 1)[0]? = some (.int .i64 (md i)) := by rw [e1]; rfl
    rwa [List.getElem?_take_of_lt (by omega)] at h2
  rw [List.getElem?_drop, Nat.add_zero] at this
  simpa using this

/-- The law's whole walk, the three ways joined. -/
theorem walk (n : Int) (wn : (Lit.int .i64 n).wf = true) (w : World) (hM : ∀ i, i < 10 → w.cell? ⟨0, i, none⟩ = some (.int .i64 (md i))) :
    Calls Ybad.prog 4 #[.int .i64 n] w fun e w' => e = .returned (.bool true) ∧ Below w.heap.size w w' := by
  have hb := bounds_i64 wn
  by_cases h : n ≤ 306
  · by_cases h1 : n < 1
    · exact claw_neg n hb.1 h1 w hM
    · exact claw_main n (by omega) h w hM
  · exact claw_past n (by omega) w

set_option maxRecDepth 100000 in
theorem lifted (os : Os) (started : os.Started) (H : Type) (enc : TypeId × Value → H) :
    ReturnsInHanded {} Ybad.checked os 4 .any (fun w args => (Rows.lawS6475CWholeSpec.pre enc Ybad.prog Ybad.f4 [] false w args ∧ laidMetH Ybad.prog laidL w) ∧ sizedMet enc Ybad.prog Ybad.f4 (OpenSpec.ofChange Rows.lawS6475CWholeSpec) false w args)
      (Rows.lawS6475CWholeSpec.post enc Ybad.prog Ybad.f4 false true false false) := by
  refine returnsInHanded_of_change_and (C := Ybad.checked) (X := fun w _ => laidMetH Ybad.prog laidL w) (fun _ _ _ hh h => h.of_heap hh) own started (by kernel_rfl) Ybad.func4
    (ChangeSpec.witness_shaped (enc := enc) (C := Ybad.checked) (os := os) (X := fun w _ => laidMetH Ybad.prog laidL w) false (World.laidAll Ybad.prog os laidL) #[.int .i64 0] 8 (World.laidAll_os _ _ _) (World.shaped_of_ZipB (by kernel_rfl) (by kernel_rfl)) (by kernel_rfl) (by kernel_rfl) (by kernel_rfl)
      (by rw [MakeChecks.laidMetH_plain _ _ _ (by kernel_rfl)]; exact laidMet_laidAll _ (by kernel_rfl) (by kernel_rfl))) ?_
  intro W base args ds gs before hval0 hW _ _ hL _
  have hval : ∀ (j : Nat) t v, Ybad.f4.params[j]? = some t → args[j]? = some v → Value.okWide Ybad.prog W .any base t v := hval0
  have hW' := hW
  obtain ⟨p, q, hA0, hV0, rfl, hfz, hnd⟩ := hW
  have hA : DataW.TrodAll enc Ybad.prog W 0 (fun _ => true) true Ybad.f4.params.toList args.toList ds p := hA0
  have hV : DataW.TrodVars enc Ybad.prog W (fun _ => true) [mdName] gs q := hV0
  rw [Ybad.params4] at hA hval
  obtain ⟨v0, d0, rfl, rfl, h0⟩ := trodAll_one hA
  obtain ⟨g, t, cs, fuel, d, p', rfl, hg, ht, hvar, hd, rfl⟩ := trodVars_one hV
  obtain rfl := Option.some.inj (gMd.symm.trans hg)
  obtain rfl := Option.some.inj (tMd.symm.trans ht)
  obtain ⟨n, rfl, rfl, rfl, wn⟩ := open_int Ybad.underlying3 (hval 0 3 v0 rfl rfl) h0
  have hM := of_laid hL
  have h0lt : 0 < W.heap.size := block_lt_of_cell (hM 0 (by omega))
  have hltv : ∀ x ∈ p', x.block < W.heap.size := DataW.trod_lt fuel _ _ _ hd
  clear hA0 hV0 hval0 hA hV
  refine (walk n wn W hM).mono fun e W' ⟨he, hB⟩ => ?_
  subst he
  obtain ⟨fuel', hd'⟩ := Below.trod laidOut (by kernel_rfl) (of_decide_eq_true (by kernel_rfl)) (v := .agg cs) (⟨fuel, hd⟩ : DataW.Trod enc Ybad.prog W 0 (fun _ => true) true 33 (.agg cs) d p') hB hltv
  have hv' := trodVars_mk1 (enc := enc) (spare := fun b => decide (b < W.heap.size)) hg ht (var?_below hB hg h0lt hvar) hd'
  exact ⟨_, rfl, _, _, _, [], [], (MemPlace.row ⟨0, 0, none⟩ cs.size ++ p'), hW', trodAll_mk1 (shut_bool Ybad.underlying4 _), trodAll_mk1 (shut_int Ybad.underlying3 wn), hv', hB.frame _, fun h => by cases h⟩

theorem row_holds : Rows.LawS6475CWholeSaid :=
  OpenClaim.holds_of_wide 4 Ybad.f4 rfl rfl rfl rfl rfl rfl rfl ⟨rfl, rfl, rfl, rfl, rfl⟩ rfl rfl rfl rfl rfl (by kernel_rfl) Ybad.func4 (by kernel_rfl)
    (of_decide_eq_true (by kernel_rfl)) (by unfold Func.isWrapper; first | (rw [if_pos (by decide +kernel)]; kernel_rfl) | (rw [if_neg (by decide +kernel)]; exact ⟨rfl, rfl⟩))
    (fun os started H enc _ => lifted os started H enc)

theorem proved : Rows.LawS6475CWholeCardSaid :=
  Claim7.holds_tied_plain_at .later [] [.wider] true (true, "dfcf9448b9fb54dfa94727e8d3297e59b6d11f4fbbab4078514df6831983ef54") false
    row_holds (fun _ h => by cases h) (by kernel_rfl) (fun _ h => by cases h) lawS6475CWhole_row_tie rfl ⟨rfl, rfl⟩ (by kernel_rfl) rfl
    (fun f fn hf hfn => by
      obtain rfl : f = 4 := Option.some.inj ((show Ybad.prog.funcNamed Rows.lawS6475CWholeRow.func = some 4 by kernel_rfl).symm.trans hf) |>.symm
      obtain rfl : fn = Ybad.f4 := (Option.some.inj (Ybad.func4.symm.trans hfn)).symm
      exact ⟨by kernel_rfl, fun j t ht => by
        rw [Ybad.params4] at ht
        have hm : t ∈ [3] := by simpa using Array.mem_of_getElem? ht
        have hall : ([3].all fun u => !Ybad.prog.wantsStandIn u) = true := by kernel_rfl
        exact (show Ybad.prog.wantsStandIn t = false by simpa using List.all_eq_true.1 hall t hm)⟩)
    (by kernel_rfl)
end Go.Proofs.YbulkedboDoor
