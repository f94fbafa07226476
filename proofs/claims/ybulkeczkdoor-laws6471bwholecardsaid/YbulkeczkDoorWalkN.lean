/-
  A way of LawS6471BWhole walked: physical not empty, no addresses.
-/
import Derived.Test.YbulkeczkDoorWalks
namespace Go.Proofs.YbulkeczkDoor
open Go.RowKit
attribute [local go_sem] eqPtr26 rule_0 rule_1 rule_2 rule_3 rule_4 rule_5 rule_6 rule_7 rule_8 rule_9 rule_10 rule_11 rule_12 rule_13 rule_14 rule_15 rule_16 rule_17 rule_18 rule_19 rule_20 rule_21 rule_22 rule_23 rule_24 rule_25 rule_26 rule_27 rule_28 rule_29 rule_30 rule_31 rule_32 rule_33 rule_34 rule_35 rule_36 rule_37 rule_38 rule_39 rule_40 rule_41 rule_42 rule_43 rule_44 rule_45 rule_46
set_option maxRecDepth 20000 in
set_option maxHeartbeats 2000000 in
theorem walk_n (s : ByteArray) (hs : s.toList.isEmpty = false) (hz0 : ((s.size : Int) == 0) = false) (lo hi : Array Value) (nt : Bool) (w : World) :
    Calls Ybad.prog 3 #[.string s, .bool false, .agg lo, .agg hi, .bool nt] w fun e w' => e = .returned (.bool true) ∧ Below w.heap.size w w' := by
  go_enter Ybad.func3, Ybad.ntmps3
  go_wp2_with (first
    | (go_at_call 6; refine (dest_n 0 0 none 0 0 none nt s hs _).mono ?_; rintro e w' ⟨rfl, rfl⟩)
    | (go_at_call 7; refine (zeros s false 0 0 none 0 0 none nt _).mono ?_; rintro e w' ⟨rfl, rfl⟩)
    | (with_reducible (show wpList _ _ _ (_ :: _) _ _); refine allocTo rfl 53 rfl zrule zrule_zero (w.heap.size + 1 + 1 + 1 + 1 + 1 + 1 + 1) ?hn ?_; (case hn => (simp; done)))
    | (with_reducible (show wpList _ _ _ (_ :: _) _ _); refine storeLast rfl 53 _ _ rfl zrule (rule s false 0 0 none 0 0 none nt) (w.heap.size + 1 + 1 + 1 + 1 + 1 + 1 + 1) 53 rfl ?hn rfl rfl (rule_info ..) rfl (rule_one ..) ?_; (case hn => (simp; done)))
    | (with_reducible (show wpList _ _ _ (_ :: _) _ _); refine loadLast rfl 53 _ rfl (rule s false 0 0 none 0 0 none nt) (w.heap.size + 1 + 1 + 1 + 1 + 1 + 1 + 1) 53 rfl ?hn rfl _ Ybad.underlying53 rfl (rule_info ..) ?_; (case hn => (simp; done))))
  go_ret
  exact ⟨rfl, by repeat (first | exact Below.refl _ _ | refine Below.alloc ?_ (by simp; try omega) _)⟩
end Go.Proofs.YbulkeczkDoor
