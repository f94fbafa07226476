/-
  LawS6471BWhole: the row (from the walks), and its tied card. The frame is the guide's (Mapy, IdRangearray, the proof skeleton) at this function's number and types.
-/
import Derived.Test.YbulkeczkDoorRows
import Derived.Test.YbulkeczkDoorTie
import Derived.Test.YbulkeczkDoorCards
import Derived.Test.YbulkeczkDoorWalkE
import Derived.Test.YbulkeczkDoorWalkN
import Derived.Test.YbulkeczkDoorWalkEA
import Derived.Test.YbulkeczkDoorWalkNA
import Derived.ProofKit
import Derived.LaidMore
import Derived.Lay
import Derived.OpenShut
import Derived.Laws.IdiomArrays
import Derived.Stop.Joined
import Derived.SevenTiedAt
namespace Go.Proofs.YbulkeczkDoor
open Go.ChangeShapes Go.WideShapes Go.ChangeAt Go.RowKit
open Go.ChangeMaps (open_string shut_string)

theorem own : ownKnob Ybad.prog.godebug = none := by kernel_rfl
/-- The variable's name, as the given row has it. -/
abbrev z4Name : String := Rows.lawS6471BWholeRow.named.headD default
theorem gZ4 : Ybad.prog.globalNamed z4Name = some 0 := by kernel_rfl
theorem tZ4 : (Ybad.prog.globals[0]?).map (·.type) = some 28 := by kernel_rfl
theorem cells5 : Ybad.prog.cellsOf 5 = 1 := by kernel_rfl
theorem cells22 : Ybad.prog.cellsOf 22 = 4 := by kernel_rfl
abbrev laidL {H : Type} : List (String × DataW H) := [(z4Name, Rows.laid_net_netip_z4)]

theorem list4 {α : Type} (l : List α) (h : (⟨l⟩ : Array α).size = 4) : ∃ a b c d, l = [a, b, c, d] := by
  match l, h with
  | [a, b, c, d], _ => exact ⟨a, b, c, d, rfl⟩

set_option maxRecDepth 100000 in
/-- What the condition gives the walks: netip's z4 holds a pointer. -/
theorem of_laid {W : World} (h : laidMetH Ybad.prog laidL W) : ∃ p, W.cell? ⟨0, 0, none⟩ = some (.pointer p) := by
  rw [MakeChecks.laidMetH_plain _ _ _ (by kernel_rfl)] at h
  obtain ⟨ps, ⟨g0, t0, cs0, f0, p0, q0, hg0, ht0, hv0, hd0, _, _⟩, _, _⟩ := h
  obtain rfl := Option.some.inj (gZ4.symm.trans hg0)
  obtain rfl := Option.some.inj (tZ4.symm.trans ht0)
  have c28 : Ybad.prog.cellsOf 28 = 1 := by kernel_rfl
  have c26 : Ybad.prog.cellsOf 26 = 1 := by kernel_rfl
  obtain ⟨y0, n, hx, hlen, hy⟩ := trod_struct1 Ybad.underlying28 hd0
  rw [c28] at hlen
  obtain ⟨l⟩ := cs0
  match l, hlen with
  | [c], _ =>
    have hc := World.var?_cell hg0 hv0 0
    simp only [c26, List.drop_zero, List.take] at hy
    rcases DataW.trod_pointer Ybad.underlying26 hy with ⟨h, _⟩ | ⟨a, cs, y, m, _, h, _⟩
    · simp at h
      subst h
      exact ⟨none, by simpa using hc⟩
    · simp at h
      subst h
      exact ⟨some a, by simpa using hc⟩

set_option maxRecDepth 100000 in
/-- An array [4]byte by value, opened: four bytes; and how it reads in whatever world. -/
theorem open_arr4 {H : Type} {enc : TypeId × Value → H} {W : World} {r : Reach} {base : Nat} {v : Value} {d : DataW H} {p : List MemPlace} {sp : Nat → Bool}
    (hv : Value.okWide Ybad.prog W r base 22 v) (h : DataW.Trod enc Ybad.prog W 0 sp true 22 v d p) :
    ∃ x0 x1 x2 x3 : Int, v = .agg #[.int .u8 x0, .int .u8 x1, .int .u8 x2, .int .u8 x3] ∧ p = [] ∧ (0 ≤ x0 ∧ x0 ≤ 255) ∧ (0 ≤ x1 ∧ x1 ≤ 255) ∧ (0 ≤ x2 ∧ x2 ≤ 255) ∧ (0 ≤ x3 ∧ x3 ≤ 255) ∧
      ∀ (W' : World) (sp' : Nat → Bool), DataW.Trod enc Ybad.prog W' 0 sp' true 22 v d [] := by
  obtain ⟨cs, rfl, hsz, _⟩ : ∃ cs, v = .agg cs ∧ cs.size = Ybad.prog.cellsOf 22 ∧ Row.okWide Ybad.prog W r base 22 cs := by
    simpa [Value.okWide, Ybad.underlying22] using hv
  rw [cells22] at hsz
  obtain ⟨l⟩ := cs
  obtain ⟨c0, c1, c2, c3, rfl⟩ := list4 l hsz
  obtain ⟨fuel, hf⟩ := h
  obtain ⟨y0, y1, y2, y3, m, hx, hy0, hy1, hy2, hy3⟩ := trod_array4 Ybad.underlying22 cells5 hf
  obtain ⟨x0, e0, rfl, w0⟩ := DataW.trod_int Ybad.underlying5 hy0
  obtain ⟨x1, e1, rfl, w1⟩ := DataW.trod_int Ybad.underlying5 hy1
  obtain ⟨x2, e2, rfl, w2⟩ := DataW.trod_int Ybad.underlying5 hy2
  obtain ⟨x3, e3, rfl, w3⟩ := DataW.trod_int Ybad.underlying5 hy3
  simp at e0 e1 e2 e3
  subst e0 e1 e2 e3
  simp only [Prod.mk.injEq] at hx
  obtain ⟨rfl, rfl⟩ := hx
  exact ⟨x0, x1, x2, x3, rfl, rfl, bounds_u8 w0, bounds_u8 w1, bounds_u8 w2, bounds_u8 w3, fun W' sp' => ⟨2, by simp [DataW.trod, Value.cells, Ybad.underlying22, Ybad.underlying5, cells22, cells5, w0, w1, w2, w3, show List.range 4 = [0, 1, 2, 3] from rfl]⟩⟩

theorem empty_of_size {s : ByteArray} (h : s.size = 0) : s = { data := #[] } := by
  obtain ⟨⟨l⟩⟩ := s
  cases l with
  | nil => rfl
  | cons a l => simp [ByteArray.size] at h
theorem isEmpty_of_size {s : ByteArray} (h : ¬ s.size = 0) : s.toList.isEmpty = false := by
  rw [ByteArray.toList_eq]
  obtain ⟨⟨l⟩⟩ := s
  cases l with
  | nil => exact absurd rfl h
  | cons a l => rfl

/-- The law's whole walk, the four ways joined. -/
theorem walk (s : ByteArray) (u : Bool) (x0 x1 x2 x3 y0 y1 y2 y3 : Int) (hx0 : 0 ≤ x0 ∧ x0 ≤ 255) (hx1 : 0 ≤ x1 ∧ x1 ≤ 255) (hx2 : 0 ≤ x2 ∧ x2 ≤ 255) (hx3 : 0 ≤ x3 ∧ x3 ≤ 255) (hy0 : 0 ≤ y0 ∧ y0 ≤ 255) (hy1 : 0 ≤ y1 ∧ y1 ≤ 255) (hy2 : 0 ≤ y2 ∧ y2 ≤ 255) (hy3 : 0 ≤ y3 ∧ y3 ≤ 255)
    (p : Option Addr) (nt : Bool) (w : World) (hg : w.cell? ⟨0, 0, none⟩ = some (.pointer p)) :
    Calls Ybad.prog 3 #[.string s, .bool u, .agg #[.int .u8 x0, .int .u8 x1, .int .u8 x2, .int .u8 x3], .agg #[.int .u8 y0, .int .u8 y1, .int .u8 y2, .int .u8 y3], .bool nt] w fun e w' => e = .returned (.bool true) ∧ Below w.heap.size w w' := by
  have hz : 0 < w.heap.size := block_lt_of_cell hg
  by_cases hs : s.size = 0
  · obtain rfl := empty_of_size hs
    cases u
    · exact walk_e _ _ nt w
    · exact walk_ea x0 x1 x2 x3 y0 y1 y2 y3 hx0 hx1 hx2 hx3 hy0 hy1 hy2 hy3 p nt w hz hg
  · have h1 := isEmpty_of_size hs
    have h2 : ((s.size : Int) == 0) = false := by simpa using hs
    cases u
    · exact walk_n s h1 h2 _ _ nt w
    · exact walk_na s h1 h2 x0 x1 x2 x3 y0 y1 y2 y3 hx0 hx1 hx2 hx3 hy0 hy1 hy2 hy3 p nt w hz hg

set_option maxRecDepth 100000 in
theorem lifted (os : Os) (started : os.Started) (H : Type) (enc : TypeId × Value → H) :
    ReturnsInHanded {} Ybad.checked os 3 .any (fun w args => (Rows.lawS6471BWholeSpec.pre enc Ybad.prog Ybad.f3 [] false w args ∧ laidMetH Ybad.prog laidL w) ∧ sizedMet enc Ybad.prog Ybad.f3 (OpenSpec.ofChange Rows.lawS6471BWholeSpec) false w args)
      (Rows.lawS6471BWholeSpec.post enc Ybad.prog Ybad.f3 false true false false) := by
  refine returnsInHanded_of_change_and (C := Ybad.checked) (X := fun w _ => laidMetH Ybad.prog laidL w) (fun _ _ _ hh h => h.of_heap hh) own started (by kernel_rfl) Ybad.func3
    (ChangeSpec.witness_shaped (enc := enc) (C := Ybad.checked) (os := os) (X := fun w _ => laidMetH Ybad.prog laidL w) false (World.laidAll Ybad.prog os laidL) #[.string ByteArray.empty, .bool false, .agg #[.int .u8 0, .int .u8 0, .int .u8 0, .int .u8 0], .agg #[.int .u8 0, .int .u8 0, .int .u8 0, .int .u8 0], .bool false] 8 (World.laidAll_os _ _ _) (World.shaped_of_ZipB (by kernel_rfl) (by kernel_rfl)) (by kernel_rfl) (by kernel_rfl) (by kernel_rfl)
      (by rw [MakeChecks.laidMetH_plain _ _ _ (by kernel_rfl)]; exact laidMet_laidAll _ (by kernel_rfl) (by kernel_rfl))) ?_
  intro W base args ds gs before hval0 hW _ _ hL _
  have hval : ∀ (j : Nat) t v, Ybad.f3.params[j]? = some t → args[j]? = some v → Value.okWide Ybad.prog W .any base t v := hval0
  have hW' := hW
  obtain ⟨p, q, hA0, hV, rfl, hfz, hnd⟩ := hW
  have hA : DataW.TrodAll enc Ybad.prog W 0 (fun _ => true) true Ybad.f3.params.toList args.toList ds p := hA0
  rw [Ybad.params3] at hA hval
  obtain ⟨v0, vs0, d0, ds0, p0, q0, hargs, rfl, rfl, h0, r0⟩ := trodAll_cons hA
  obtain ⟨v1, vs1, d1, ds1, p1, q1, rfl, rfl, rfl, h1, r1⟩ := trodAll_cons r0
  obtain ⟨v2, vs2, d2, ds2, p2, q2, rfl, rfl, rfl, h2, r2⟩ := trodAll_cons r1
  obtain ⟨v3, vs3, d3, ds3, p3, q3, rfl, rfl, rfl, h3, r3⟩ := trodAll_cons r2
  obtain ⟨v4, vs4, d4, ds4, p4, q4, rfl, rfl, rfl, h4, r4⟩ := trodAll_cons r3
  obtain ⟨rfl, rfl, rfl⟩ := trodAll_nil r4
  obtain rfl : args = #[v0, v1, v2, v3, v4] := by cases args; simp_all
  obtain ⟨rfl, rfl⟩ := trodVars_none hV
  obtain ⟨a0, rfl, rfl, rfl, w0⟩ := open_string Ybad.underlying9 (hval 0 9 v0 rfl rfl) h0
  obtain ⟨a1, rfl, rfl, rfl⟩ := open_bool Ybad.underlying4 (hval 1 4 v1 rfl rfl) h1
  obtain ⟨x0, x1, x2, x3, rfl, rfl, hx0, hx1, hx2, hx3, rd2⟩ := open_arr4 (hval 2 22 v2 rfl rfl) h2
  obtain ⟨y0, y1, y2, y3, rfl, rfl, hy0, hy1, hy2, hy3, rd3⟩ := open_arr4 (hval 3 22 v3 rfl rfl) h3
  obtain ⟨a4, rfl, rfl, rfl⟩ := open_bool Ybad.underlying4 (hval 4 4 v4 rfl rfl) h4
  obtain ⟨pz, hg⟩ := of_laid hL
  clear hA0 hval0
  simp only [List.append_nil] at hW'
  refine (walk a0 a1 x0 x1 x2 x3 y0 y1 y2 y3 hx0 hx1 hx2 hx3 hy0 hy1 hy2 hy3 pz a4 W hg).mono fun e W' ⟨he, hb⟩ => ?_
  subst he
  refine ⟨_, rfl, _, _, _, [], [], [], hW', ?_, ?_, ?_, hb.frame _, fun h => by cases h⟩
  · exact trodAll_cons_mk (shut_bool Ybad.underlying4 _) trodAll_mk0
  · exact trodAll_cons_mk (shut_string Ybad.underlying9 w0) (trodAll_cons_mk (shut_bool Ybad.underlying4 _) (trodAll_cons_mk (rd2 W' _) (trodAll_cons_mk (rd3 W' _) (trodAll_cons_mk (shut_bool Ybad.underlying4 _) trodAll_mk0))))
  · rfl

theorem row_holds : Rows.LawS6471BWholeSaid :=
  OpenClaim.holds_of_wide 3 Ybad.f3 rfl rfl rfl rfl rfl rfl rfl ⟨rfl, rfl, rfl, rfl, rfl⟩ rfl rfl rfl rfl rfl (by kernel_rfl) Ybad.func3 (by kernel_rfl)
    (of_decide_eq_true (by kernel_rfl)) (by unfold Func.isWrapper; first | (rw [if_pos (by decide +kernel)]; kernel_rfl) | (rw [if_neg (by decide +kernel)]; exact ⟨rfl, rfl⟩))
    (fun os started H enc _ => lifted os started H enc)

theorem proved : Rows.LawS6471BWholeCardSaid :=
  Claim7.holds_tied_plain_at .later [] [.called] true (true, "12e6ed878a13786e486d41953155e75bbaed4d870fc10020e8fa79e1cf7eb560") false
    row_holds (fun _ h => by cases h) (by kernel_rfl) (fun _ h => by cases h) lawS6471BWhole_row_tie rfl ⟨rfl, rfl⟩ (by kernel_rfl) rfl
    (fun f fn hf hfn => by
      obtain rfl : f = 3 := Option.some.inj ((show Ybad.prog.funcNamed Rows.lawS6471BWholeRow.func = some 3 by kernel_rfl).symm.trans hf) |>.symm
      obtain rfl : fn = Ybad.f3 := (Option.some.inj (Ybad.func3.symm.trans hfn)).symm
      exact ⟨by kernel_rfl, fun j t ht => by
        rw [Ybad.params3] at ht
        have hm : t ∈ [9, 4, 22, 22, 4] := by simpa using Array.mem_of_getElem? ht
        have hall : ([9, 4, 22, 22, 4].all fun u => !Ybad.prog.wantsStandIn u) = true := by kernel_rfl
        exact (show Ybad.prog.wantsStandIn t = false by simpa using List.all_eq_true.1 hall t hm)⟩)
    (by kernel_rfl)
end Go.Proofs.YbulkeczkDoor
