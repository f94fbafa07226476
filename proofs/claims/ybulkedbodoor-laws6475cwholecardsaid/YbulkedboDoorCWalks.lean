/-
  LawS6475CWhole: the plain part (months from March on, their lengths and starts) and the walks of fromMarch and of the law.
-/
import Derived.Test.YbulkedboDoorRows
import Derived.WalkKit
import Derived.WalkLawsBesides
import Derived.WalkSpells
namespace Go.Proofs.YbulkedboDoor
open Go.RowKit
set_option linter.unusedSimpArgs false
set_option linter.unusedVariables false

/-- The length of month k from March on. -/
def md (k : Nat) : Int := [31, 30, 31, 30, 31, 31, 30, 31, 30, 31].getD k 0
/-- The day before the first of month k from March on; st 10: past December. -/
def st (k : Nat) : Int := [0, 31, 61, 92, 122, 153, 184, 214, 245, 275, 306].getD k 0
theorem nat10 (k : Nat) (h : k ≤ 9) : k = 0 ∨ k = 1 ∨ k = 2 ∨ k = 3 ∨ k = 4 ∨ k = 5 ∨ k = 6 ∨ k = 7 ∨ k = 8 ∨ k = 9 := by omega
theorem st_succ (k : Nat) (h : k ≤ 9) : st (k + 1) = st k + md k := by
  rcases nat10 k h with rfl | rfl | rfl | rfl | rfl | rfl | rfl | rfl | rfl | rfl <;> rfl
theorem md_bd (k : Nat) (h : k ≤ 9) : 30 ≤ md k ∧ md k ≤ 31 := by
  rcases nat10 k h with rfl | rfl | rfl | rfl | rfl | rfl | rfl | rfl | rfl | rfl <;> decide
theorem st_bd (k : Nat) (h : k ≤ 9) : 0 ≤ st k ∧ st k ≤ 275 := by
  rcases nat10 k h with rfl | rfl | rfl | rfl | rfl | rfl | rfl | rfl | rfl | rfl <;> decide
theorem st_pos (k : Nat) (h : k ≤ 9) (h0 : k ≠ 0) : 31 ≤ st k := by
  rcases nat10 k h with rfl | rfl | rfl | rfl | rfl | rfl | rfl | rfl | rfl | rfl
  · exact absurd rfl h0
  all_goals decide
theorem st_last (k : Nat) (h : k ≤ 9) (h9 : k = 9) : st (k + 1) = 306 := by subst h9; rfl
theorem st_mono (j k : Nat) (hj : j < k) (hk : k ≤ 9) : st (j + 1) ≤ st k := by
  rcases nat10 k hk with rfl | rfl | rfl | rfl | rfl | rfl | rfl | rfl | rfl | rfl
  all_goals (rcases nat10 j (by omega) with rfl | rfl | rfl | rfl | rfl | rfl | rfl | rfl | rfl | rfl <;> first | omega | decide)
/-- n lies in month k. -/
def InMonth (n : Int) (k : Nat) : Prop := k ≤ 9 ∧ (k = 0 ∨ st k < n) ∧ n ≤ st (k + 1)
theorem InMonth.unique {n : Int} {j k : Nat} (hj : InMonth n j) (hk : InMonth n k) : j = k := by
  obtain ⟨j9, j1, j2⟩ := hj
  obtain ⟨k9, k1, k2⟩ := hk
  rcases Nat.lt_trichotomy j k with h | h | h
  · have := st_mono j k h k9; omega
  · exact h
  · have := st_mono k j h j9; omega

set_option maxHeartbeats 400000 in
theorem fromMarch (n : Int) (h0 : -9223372036854775808 ≤ n) (h : n ≤ 306) (w : World) (hM : ∀ i, i < 10 → w.cell? ⟨0, i, none⟩ = some (.int .i64 (md i))) :
    Calls Ybad.prog 8 #[.int .i64 n] w fun e w' => ∃ k : Nat, e = .returned (.tuple #[.int .i64 (3 + (k : Int)), .int .i64 (n - st k)]) ∧ InMonth n k ∧ w' = w := by
  have HM : Hid (∀ i, i < 10 → w.cell? ⟨0, i, none⟩ = some (.int .i64 (md i))) := hM
  clear hM
  go_enter Ybad.func8, Ybad.ntmps8
  go_wp2
  go_loop [4, 5] (fun m d => ∃ k : Nat, k ≤ 9 ∧ Hid (k = 0 ∨ st k < n) ∧ m = .int .i64 (3 + (k : Int)) ∧ d = .int .i64 (n - st k)) (fun m _ => (12 - intOf m).toNat)
  case atStart => exact ⟨0, by omega, .inl rfl, by simp, by simp [st]⟩
  case round =>
    obtain ⟨k, hk, HK, rfl, rfl⟩ := hrel
    have c := HM.out k (by omega)
    have b1 := md_bd k hk
    have b2 := st_bd k hk
    have HS : Hid (st (k + 1) = st k + md k) := st_succ k hk
    have HL : Hid (k = 9 → st (k + 1) = 306) := st_last k hk
    have HZ : Hid (k = 0 → st k = 0) := fun e => by rw [e]; rfl
    generalize hS : st k = S at *
    have HSk : Hid (st k = S) := hS
    clear hS
    generalize md k = M at *
    by_cases hlt : M < n - S
    · go_wp2
      have hS := HS.out
      have h9 : k ≠ 9 := fun e => by have := HL.out e; omega
      go_round
      case rel => exact ⟨k + 1, by omega, .inr (by omega), by go_num, by rw [hS]; go_num⟩
      case measure => simp [intOf]; omega
    · go_wp2
      go_ret2
      exact ⟨k, by rw [HSk.out]; rfl, ⟨hk, by rw [HSk.out]; exact HK.out, by have := HS.out; omega⟩, rfl⟩

/-- The law's own table of starts. -/
def starts : Array Value := #[.int .i64 0, .int .i64 31, .int .i64 61, .int .i64 92, .int .i64 122, .int .i64 153, .int .i64 184, .int .i64 214, .int .i64 245, .int .i64 275]
theorem starts_at (k : Nat) (h : k ≤ 9) : (#[.int .i64 0, .int .i64 31, .int .i64 61, .int .i64 92, .int .i64 122, .int .i64 153, .int .i64 184, .int .i64 214, .int .i64 245, .int .i64 275] : Array Value)[k]? = some (.int .i64 (st k)) := by
  rcases nat10 k h with rfl | rfl | rfl | rfl | rfl | rfl | rfl | rfl | rfl | rfl <;> rfl

set_option maxHeartbeats 400000 in
theorem claw_past (n : Int) (h : 306 < n) (w : World) :
    Calls Ybad.prog 4 #[.int .i64 n] w fun e w' => e = .returned (.bool true) ∧ Below w.heap.size w w' := by
  go_enter Ybad.func4, Ybad.ntmps4
  go_wp2
  go_ret
  exact ⟨rfl, Below.refl _ _⟩
set_option maxHeartbeats 400000 in
theorem claw_neg (n : Int) (h0 : -9223372036854775808 ≤ n) (h : n < 1) (w : World) (hM : ∀ i, i < 10 → w.cell? ⟨0, i, none⟩ = some (.int .i64 (md i))) :
    Calls Ybad.prog 4 #[.int .i64 n] w fun e w' => e = .returned (.bool true) ∧ Below w.heap.size w w' := by
  have hf := fromMarch n h0 (by omega) w hM
  clear hM
  go_enter Ybad.func4, Ybad.ntmps4
  go_wp2_with fail
  refine hf.mono ?_
  rintro e w1 ⟨k, rfl, hk, rfl⟩
  obtain rfl : k = 0 := by
    obtain ⟨k9, k1, _⟩ := hk
    rcases k1 with e | e
    · exact e
    · by_cases hz : k = 0
      · exact hz
      · have := st_pos k k9 hz; omega
  rw [show n - st 0 = n from by simp [st]]
  clear hk hf
  go_wp2
  go_ret
  exact ⟨rfl, Below.refl _ _⟩
set_option maxHeartbeats 400000 in
theorem claw_main (n : Int) (h1 : 1 ≤ n) (h : n ≤ 306) (w : World) (hM : ∀ i, i < 10 → w.cell? ⟨0, i, none⟩ = some (.int .i64 (md i))) :
    Calls Ybad.prog 4 #[.int .i64 n] w fun e w' => e = .returned (.bool true) ∧ Below w.heap.size w w' := by
  have hf := fromMarch n (by omega) h w hM
  clear hM
  go_enter Ybad.func4, Ybad.ntmps4
  go_wp2_with fail
  refine hf.mono ?_
  rintro e w1 ⟨k, rfl, hk, rfl⟩
  have HK : Hid (InMonth n k) := hk
  have k9 := hk.1
  clear hk hf
  generalize hd : n - st k = d
  have HD : Hid (n - st k = d) := hd
  clear hd
  go_wp2
  go_loop [6] (fun t => ∃ j : Nat, j ≤ 9 ∧ Hid (n ≤ st (j + 1)) ∧ t = .int .i64 (j : Int)) (fun t => (intOf t).toNat)
  case atStart => exact ⟨9, by omega, h, rfl⟩
  case round =>
    obtain ⟨j, hj, HJ, rfl⟩ := hrel
    have cj := starts_at j hj
    have b2 := st_bd j hj
    generalize hS : st j = S at *
    have HS : Hid (st j = S) := hS
    clear hS
    by_cases hc : 0 < j ∧ n ≤ S
    · obtain ⟨c1, c2⟩ := hc
      go_wp2
      go_round
      case rel => exact ⟨j - 1, by omega, by rw [show j - 1 + 1 = j from by omega, HS.out]; exact c2, by rw [show ((j : Int) - 1) = ((j - 1 : Nat) : Int) from by omega]⟩
      case measure => simp [intOf]; omega
    · have HX : Hid (j = k) := by
        refine InMonth.unique ⟨hj, ?_, HJ.out⟩ HK.out
        have := HS.out
        by_cases e : j = 0
        · exact .inl e
        · right; rw [this]; omega
      obtain rfl : j = k := HX.out
      obtain rfl : d = n - S := by rw [← HD.out, HS.out]
      clear HX HK HD HJ
      by_cases hj0 : 0 < j
      · have c2 : S < n := by omega
        clear hc HS
        go_wp2
        go_ret
        exact ⟨rfl, (Below.refl _ _).alloc (Nat.le_refl _) _⟩
      · obtain rfl : j = 0 := by omega
        obtain rfl : 0 = S := HS.out
        clear hc HS cj
        go_wp2
        go_ret
        exact ⟨rfl, (Below.refl _ _).alloc (Nat.le_refl _) _⟩
end Go.Proofs.YbulkedboDoor
