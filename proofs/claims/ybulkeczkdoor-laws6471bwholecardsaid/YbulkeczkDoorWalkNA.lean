/-
  A way of LawS6471BWhole walked: physical not empty, addresses given.
-/
import Derived.Test.YbulkeczkDoorWalks
namespace Go.Proofs.YbulkeczkDoor
open Go.RowKit
attribute [local go_sem] eqPtr26 rule_0 rule_1 rule_2 rule_3 rule_4 rule_5 rule_6 rule_7 rule_8 rule_9 rule_10 rule_11 rule_12 rule_13 rule_14 rule_15 rule_16 rule_17 rule_18 rule_19 rule_20 rule_21 rule_22 rule_23 rule_24 rule_25 rule_26 rule_27 rule_28 rule_29 rule_30 rule_31 rule_32 rule_33 rule_34 rule_35 rule_36 rule_37 rule_38 rule_39 rule_40 rule_41 rule_42 rule_43 rule_44 rule_45 rule_46
set_option maxRecDepth 20000 in
set_option maxHeartbeats 2000000 in
theorem walk_na (s : ByteArray) (hs : s.toList.isEmpty = false) (hz0 : ((s.size : Int) == 0) = false) (x0 x1 x2 x3 y0 y1 y2 y3 : Int) (hx0 : 0 ≤ x0 ∧ x0 ≤ 255) (hx1 : 0 ≤ x1 ∧ x1 ≤ 255) (hx2 : 0 ≤ x2 ∧ x2 ≤ 255) (hx3 : 0 ≤ x3 ∧ x3 ≤ 255) (hy0 : 0 ≤ y0 ∧ y0 ≤ 255) (hy1 : 0 ≤ y1 ∧ y1 ≤ 255) (hy2 : 0 ≤ y2 ∧ y2 ≤ 255) (hy3 : 0 ≤ y3 ∧ y3 ≤ 255) (p : Option Addr) (nt : Bool) (w : World) (hz : 0 < w.heap.size) (hg : w.cell? ⟨0, 0, none⟩ = some (.pointer p)) :
    Calls Ybad.prog 3 #[.string s, .bool true, .agg #[.int .u8 x0, .int .u8 x1, .int .u8 x2, .int .u8 x3], .agg #[.int .u8 y0, .int .u8 y1, .int .u8 y2, .int .u8 y3], .bool nt] w fun e w' => e = .returned (.bool true) ∧ Below w.heap.size w w' := by
  go_enter Ybad.func3, Ybad.ntmps3
  go_wp2_with fail
  refine (from4 x0 x1 x2 x3 hx0 hx1 hx2 hx3 p _ ?h1 ?h2).mono ?_
  case h1 => (simp; try omega)
  case h2 => simp [go_sem, hg, hz]
  rintro e w' ⟨rfl, rfl⟩
  go_wp2_with fail
  refine (from4 y0 y1 y2 y3 hy0 hy1 hy2 hy3 p _ ?h1 ?h2).mono ?_
  case h1 => (simp; try omega)
  case h2 => simp [go_sem, hg, hz]
  rintro e w' ⟨rfl, rfl⟩
  clear hg hx0 hx1 hx2 hx3 hy0 hy1 hy2 hy3
  go_wp2_with (first
    | (go_at_call 6; refine (dest_n 0 (lowWord x0 x1 x2 x3) p 0 (lowWord y0 y1 y2 y3) p nt s hs _).mono ?_; rintro e w' ⟨rfl, rfl⟩)
    | (go_at_call 7; refine (zeros s false 0 (lowWord x0 x1 x2 x3) p 0 (lowWord y0 y1 y2 y3) p nt _).mono ?_; rintro e w' ⟨rfl, rfl⟩)
    | (with_reducible (show wpList _ _ _ (_ :: _) _ _); refine allocTo rfl 53 rfl zrule zrule_zero (w.heap.size + 1 + 1 + 1 + 1 + 1 + 1 + 1 + 1 + 1 + 1 + 1) ?hn ?_; (case hn => (simp; done)))
    | (with_reducible (show wpList _ _ _ (_ :: _) _ _); refine storeLast rfl 53 _ _ rfl zrule (rule s false 0 (lowWord x0 x1 x2 x3) p 0 (lowWord y0 y1 y2 y3) p nt) (w.heap.size + 1 + 1 + 1 + 1 + 1 + 1 + 1 + 1 + 1 + 1 + 1) 53 rfl ?hn rfl rfl (rule_info ..) rfl (rule_one ..) ?_; (case hn => (simp; done)))
    | (with_reducible (show wpList _ _ _ (_ :: _) _ _); refine loadLast rfl 53 _ rfl (rule s false 0 (lowWord x0 x1 x2 x3) p 0 (lowWord y0 y1 y2 y3) p nt) (w.heap.size + 1 + 1 + 1 + 1 + 1 + 1 + 1 + 1 + 1 + 1 + 1) 53 rfl ?hn rfl _ Ybad.underlying53 rfl (rule_info ..) ?_; (case hn => (simp; done))))
  go_ret
  exact ⟨rfl, by repeat (first | exact Below.refl _ _ | refine Below.alloc ?_ (by simp; try omega) _)⟩
end Go.Proofs.YbulkeczkDoor
