/-
  LawS6470BWhole: the law's own walk where there is no step, and where there are more than 1<<16.
-/
import Derived.Test.YbulkecywMore
namespace Go.Proofs.Ybulkecyw
open Go.RowKit
set_option linter.unusedSimpArgs false
set_option linter.unusedVariables false
set_option maxRecDepth 100000 in
set_option maxHeartbeats 1000000 in
theorem law_big (a : Option Addr) (n cap : Nat) (w : World) (hbig : ¬ n ≤ 65536) :
    Calls Yba.prog 3 #[.slice a n cap] w fun e w' => e = .returned (.bool true) ∧ Below w.heap.size w w' := by
  have hb : 65536 < n := by omega
  clear hbig
  go_enter Yba.func3, Yba.ntmps3
  go_wp2
  go_ret
  exact ⟨rfl, Below.refl _ _⟩
set_option maxRecDepth 100000 in
set_option maxHeartbeats 1000000 in
theorem law_zero (a : Option Addr) (cap : Nat) (w : World) :
    Calls Yba.prog 3 #[.slice a 0 cap] w fun e w' => e = .returned (.bool true) ∧ Below w.heap.size w w' := by
  have HI0 : Hid (Inv w w.heap.size _ [] none) := inv0 w
  go_enter Yba.func3, Yba.ntmps3
  go_wp2
  go_loopw [8] (fun i wr => i = .int .i64 0 ∧ Hid (Inv w w.heap.size wr [] none)) (fun _ _ => 0)
  case atStart => exact ⟨rfl, HI0⟩
  case round =>
    clear HI0
    obtain ⟨rfl, HI⟩ := hrel
    go_wp2
    go_ret
    exact ⟨rfl, HI.out.below⟩
end Go.Proofs.Ybulkecyw
