/-
  LawS6472AWhole: the row, out of the walk. The frame is the guide's shell (proof-skeleton) at this function's number and types; the reach is asked for ('.._sized').
-/
import Derived.Test.YbulkeczyRows
import Derived.Test.YbulkeczyALaw
import Derived.WalkKit
import Derived.ProofKit
import Derived.OpenShut
import Derived.ShutString
import Derived.SizedLaws
namespace Go.Proofs.Ybulkeczy.lawS6472AWhole
open Go.ChangeShapes Go.WideShapes Go.ChangeAt Go.RowKit
open Go.ChangeMaps (open_string shut_string)
set_option linter.unusedVariables false      -- a walk need not use every 'w<i>' (that an integer argument fits its kind)

theorem reach (a : ByteArray) (h : a.data.toList.length ≤ reachBytes) : a.size ≤ 140737488351232 := by
  have e : a.data.toList.length = a.size := by simp
  unfold reachBytes at h
  omega
theorem own : ownKnob Yba.prog.godebug = none := by kernel_rfl

theorem walk (a0 : ByteArray) (a1 : ByteArray) (a2 : ByteArray) (a3 : ByteArray) (a4 : Bool) (a5 : Bool) (a6 : Int) (w0 : a0.size ≤ 140737488351232) (w1 : a1.size ≤ 140737488351232) (w2 : a2.size ≤ 140737488351232) (w3 : a3.size ≤ 140737488351232) (w6 : (Lit.int .u8 a6).wf = true) (w : World) :
    Calls Yba.prog 3 #[.string a0, .string a1, .string a2, .string a3, .bool a4, .bool a5, .int .u8 a6] w fun e w' => e = .returned (.bool true) ∧ Below w.heap.size w w' := by
  have hb := bounds_u8 w6
  by_cases h : a0.size + a1.size + a2.size + a3.size ≤ 1048576
  · cases a4
    · exact alaw_plain a0 a1 a2 a3 a5 a6 hb.1 hb.2 w h
    · exact alaw_star a0 a1 a2 a3 a5 a6 hb.1 hb.2 w h
  · exact alaw_big a0 a1 a2 a3 a4 a5 a6 w w0 w1 w2 w3 (by omega)

/-! ### THE ROW's STEP: WRITTEN OUT: LEAVE IT -/
set_option maxRecDepth 100000 in
theorem lifted (os : Os) (started : os.Started) (H : Type) (enc : TypeId × Value → H) :
    ReturnsInHanded {} Yba.checked os 3 .any (Rows.lawS6472AWholeSpec.pre6 enc Yba.prog Yba.f3 Rows.lawS6472AWholeRow.domain false) (Rows.lawS6472AWholeSpec.post enc Yba.prog Yba.f3 false true false false) := by
  refine returnsInHanded_of_change_sized (C := Yba.checked) own started (by kernel_rfl) Yba.func3
    (ChangeSpec.witness6 (enc := enc) (C := Yba.checked) false ⟨#[], #[.string ByteArray.empty, .string ByteArray.empty, .string ByteArray.empty, .string ByteArray.empty, .bool false, .bool false, .int .u8 0], []⟩ 8 (by kernel_rfl) (by kernel_rfl) (by kernel_rfl) (by kernel_rfl)) ?_
  intro W base args ds gs before hval0 hW hcnd hsz0 _
  have hsz : (DataW.weightsEach Yba.prog (Yba.f3.params.toList ++ Rows.lawS6472AWholeSpec.plain.varTypes Yba.prog) (ds ++ gs)).all (· ≤ reachBytes) = true := hsz0
  have hval : ∀ (j : Nat) t v, Yba.f3.params[j]? = some t → args[j]? = some v → Value.okWide Yba.prog W .any base t v := hval0
  have hW' := hW
  obtain ⟨p, q, hA0, hV, rfl, hfz, hnd⟩ := hW
  have hA : DataW.TrodAll enc Yba.prog W 0 (fun _ => true) true Yba.f3.params.toList args.toList ds p := hA0
  rw [Yba.params3] at hA hval hsz
  obtain ⟨v0, vs0, d0, ds0, p0, q0, hargs, rfl, rfl, h0, r0⟩ := trodAll_cons hA
  obtain ⟨v1, vs1, d1, ds1, p1, q1, rfl, rfl, rfl, h1, r1⟩ := trodAll_cons r0
  obtain ⟨v2, vs2, d2, ds2, p2, q2, rfl, rfl, rfl, h2, r2⟩ := trodAll_cons r1
  obtain ⟨v3, vs3, d3, ds3, p3, q3, rfl, rfl, rfl, h3, r3⟩ := trodAll_cons r2
  obtain ⟨v4, vs4, d4, ds4, p4, q4, rfl, rfl, rfl, h4, r4⟩ := trodAll_cons r3
  obtain ⟨v5, vs5, d5, ds5, p5, q5, rfl, rfl, rfl, h5, r5⟩ := trodAll_cons r4
  obtain ⟨v6, vs6, d6, ds6, p6, q6, rfl, rfl, rfl, h6, r6⟩ := trodAll_cons r5
  obtain ⟨rfl, rfl, rfl⟩ := trodAll_nil r6
  obtain rfl : args = #[v0, v1, v2, v3, v4, v5, v6] := by cases args; simp_all
  obtain ⟨rfl, rfl⟩ := trodVars_none hV
  obtain ⟨a0, rfl, rfl, rfl, w0⟩ := open_string Yba.underlying9 (hval 0 9 v0 rfl rfl) h0
  obtain ⟨a1, rfl, rfl, rfl, w1⟩ := open_string Yba.underlying9 (hval 1 9 v1 rfl rfl) h1
  obtain ⟨a2, rfl, rfl, rfl, w2⟩ := open_string Yba.underlying9 (hval 2 9 v2 rfl rfl) h2
  obtain ⟨a3, rfl, rfl, rfl, w3⟩ := open_string Yba.underlying9 (hval 3 9 v3 rfl rfl) h3
  obtain ⟨a4, rfl, rfl, rfl⟩ := open_bool Yba.underlying4 (hval 4 4 v4 rfl rfl) h4
  obtain ⟨a5, rfl, rfl, rfl⟩ := open_bool Yba.underlying4 (hval 5 4 v5 rfl rfl) h5
  obtain ⟨a6, rfl, rfl, rfl, w6⟩ := open_int Yba.underlying5 (hval 6 5 v6 rfl rfl) h6
  clear hA0 hval0
  simp only [List.append_nil] at hW'
  have z0 := reach a0 (sized_string hsz (j := 0) (t := 9) rfl rfl)
  have z1 := reach a1 (sized_string hsz (j := 1) (t := 9) rfl rfl)
  have z2 := reach a2 (sized_string hsz (j := 2) (t := 9) rfl rfl)
  have z3 := reach a3 (sized_string hsz (j := 3) (t := 9) rfl rfl)
  refine (walk a0 a1 a2 a3 a4 a5 a6 z0 z1 z2 z3 w6 W).mono fun e W' ⟨he, hb⟩ => ?_
  subst he
  exact ⟨_, rfl, _, _, _, [], [], [], hW', (trodAll_cons_mk (shut_bool Yba.underlying4 _) trodAll_mk0), (trodAll_cons_mk (shut_string Yba.underlying9 w0) (trodAll_cons_mk (shut_string Yba.underlying9 w1) (trodAll_cons_mk (shut_string Yba.underlying9 w2) (trodAll_cons_mk (shut_string Yba.underlying9 w3) (trodAll_cons_mk (shut_bool Yba.underlying4 _) (trodAll_cons_mk (shut_bool Yba.underlying4 _) (trodAll_cons_mk (shut_int Yba.underlying5 w6) trodAll_mk0))))))), rfl, hb.frame _, fun h => by cases h⟩

theorem over : Rows.lawS6472AWholeRow.holds Yba.pinned (OpenSpec.ofChange Rows.lawS6472AWholeSpec) :=
  OpenClaim.holds_of_wide 3 Yba.f3 rfl rfl rfl rfl rfl rfl rfl ⟨rfl, rfl, rfl, rfl, rfl⟩ rfl rfl rfl rfl rfl (by kernel_rfl) Yba.func3 (by kernel_rfl)
    (of_decide_eq_true (by kernel_rfl)) (by unfold Func.isWrapper; first | (rw [if_pos (by decide +kernel)]; kernel_rfl) | (rw [if_neg (by decide +kernel)]; exact ⟨rfl, rfl⟩))
    (fun os started H enc _ => lifted os started H enc)

/-- ████ THE STATEMENT ████ -/
theorem proved : Rows.LawS6472AWholeSaid :=
  over
end Go.Proofs.Ybulkeczy.lawS6472AWhole
