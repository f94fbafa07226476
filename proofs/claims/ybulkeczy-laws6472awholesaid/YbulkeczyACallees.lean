/-
  LawS6472AWhole: the walks of her callees: zzs6472abuild, strings.HasPrefix, strings.HasSuffix, Pattern.cover.
-/
import Derived.Test.YbulkeczyRows
import Derived.WalkKit
import Derived.WalkLawsBesides
import Derived.WalkSpells
import Derived.Deep.QuietTactic
import Derived.BigQuiet
namespace Go.Proofs.Ybulkeczy
open Go.RowKit
set_option linter.unusedSimpArgs false
set_option linter.unusedVariables false

/-- t begins with p, as HasPrefix asks it. -/
def preB (t p : ByteArray) : Bool := (t.extract 0 p.size).toList == p.toList
/-- t ends with x, as HasSuffix asks it. -/
def sufB (t x : ByteArray) : Bool := (t.extract (t.size - x.size) t.size).toList == x.toList

set_option maxHeartbeats 400000 in
/-- zzs6472abuild gives some string that is not longer than its four parts together. -/
theorem build (sel : Int) (h0 : 0 ≤ sel) (h1 : sel ≤ 255) (p x m s : ByteArray) (hs : p.size + x.size + m.size + s.size ≤ 1048576) (w : World) :
    Calls Yba.prog 5 #[.int .u8 sel, .string p, .string x, .string m, .string s] w fun e w' => ∃ t : ByteArray, e = .returned (.string t) ∧ t.size ≤ 1048576 ∧ w' = w := by
  go_enter Yba.func5, Yba.ntmps5
  go_wp2
  all_goals
    go_ret
    refine ⟨_, rfl, ?_, rfl⟩
    first | omega | (simp only [ByteArray.size_append]; omega)

set_option maxHeartbeats 400000 in
theorem hasPrefix (t p : ByteArray) (r : Bool) (hr : preB t p = r) (h : p.size ≤ t.size) (hm : t.size ≤ 1048576) (w : World) :
    Calls Yba.prog 10 #[.string t, .string p] w fun e w' => e = .returned (.bool r) ∧ w' = w := by
  have HR : Hid (preB t p = r) := hr
  clear hr
  go_enter Yba.func10, Yba.ntmps10
  go_wp2
  go_ret
  exact ⟨by rw [← HR.out]; rfl, rfl⟩
set_option maxHeartbeats 400000 in
theorem hasSuffix (t x : ByteArray) (r : Bool) (hr : sufB t x = r) (h : x.size ≤ t.size) (hm : t.size ≤ 1048576) (w : World) :
    Calls Yba.prog 11 #[.string t, .string x] w fun e w' => e = .returned (.bool r) ∧ w' = w := by
  have HR : Hid (sufB t x = r) := hr
  clear hr
  go_enter Yba.func11, Yba.ntmps11
  go_wp2
  go_ret
  exact ⟨by rw [← HR.out]; rfl, rfl⟩

set_option maxHeartbeats 400000 in
theorem cover_plain (p x t : ByteArray) (asc : Bool) (w : World) :
    Calls Yba.prog 6 #[.agg #[.string p, .string x, .bool false, .bool asc], .string t] w fun e w' =>
      e = .returned (.tuple #[.string { data := #[] }, .bool (t.toList == p.toList)]) ∧ ∃ q, w' = (w.alloc (.cells #[.string p, .string x, .bool false, .bool asc] 23)).drewN q := by
  go_enter Yba.func6, Yba.ntmps6
  go_wp2
  go_quiet (fail)
  go_wp2
  go_ret2
  exact ⟨rfl, _, rfl⟩
set_option maxHeartbeats 400000 in
theorem cover_short (p x t : ByteArray) (asc : Bool) (h : t.size < p.size + x.size) (hp : p.size + x.size ≤ 1048576) (w : World) :
    Calls Yba.prog 6 #[.agg #[.string p, .string x, .bool true, .bool asc], .string t] w fun e w' =>
      e = .returned (.tuple #[.string { data := #[] }, .bool false]) ∧ w' = w.alloc (.cells #[.string p, .string x, .bool true, .bool asc] 23) := by
  go_enter Yba.func6, Yba.ntmps6
  go_wp2
  go_ret2
  exact ⟨rfl, rfl⟩
set_option maxHeartbeats 400000 in
theorem cover_no (p x t : ByteArray) (asc : Bool) (h : p.size + x.size ≤ t.size) (hp : t.size ≤ 1048576) (hn : preB t p = false ∨ (preB t p = true ∧ sufB t x = false)) (w : World) :
    Calls Yba.prog 6 #[.agg #[.string p, .string x, .bool true, .bool asc], .string t] w fun e w' =>
      e = .returned (.tuple #[.string { data := #[] }, .bool false]) ∧ w' = w.alloc (.cells #[.string p, .string x, .bool true, .bool asc] 23) := by
  rcases hn with h1 | ⟨h1, h2⟩
  · have c1 := hasPrefix t p false h1 (by omega) hp
    clear h1
    go_enter Yba.func6, Yba.ntmps6
    go_wp2_with (go_at_call 10; refine (c1 _).mono ?_; rintro e w' ⟨rfl, rfl⟩)
    go_ret2
    exact ⟨rfl, rfl⟩
  · have c1 := hasPrefix t p true h1 (by omega) hp
    have c2 := hasSuffix t x false h2 (by omega) hp
    clear h1 h2
    go_enter Yba.func6, Yba.ntmps6
    go_wp2_with (first | (go_at_call 10; refine (c1 _).mono ?_; rintro e w' ⟨rfl, rfl⟩) | (go_at_call 11; refine (c2 _).mono ?_; rintro e w' ⟨rfl, rfl⟩))
    go_ret2
    exact ⟨rfl, rfl⟩
set_option maxHeartbeats 400000 in
theorem cover_yes (p x t : ByteArray) (asc : Bool) (h : p.size + x.size ≤ t.size) (hp : t.size ≤ 1048576) (h1 : preB t p = true) (h2 : sufB t x = true) (w : World) :
    Calls Yba.prog 6 #[.agg #[.string p, .string x, .bool true, .bool asc], .string t] w fun e w' =>
      e = .returned (.tuple #[.string (t.extract p.size (t.size - x.size)), .bool true]) ∧ w' = w.alloc (.cells #[.string p, .string x, .bool true, .bool asc] 23) := by
  have c1 := hasPrefix t p true h1 (by omega) hp
  have c2 := hasSuffix t x true h2 (by omega) hp
  clear h1 h2
  go_enter Yba.func6, Yba.ntmps6
  go_wp2_with (first | (go_at_call 10; refine (c1 _).mono ?_; rintro e w' ⟨rfl, rfl⟩) | (go_at_call 11; refine (c2 _).mono ?_; rintro e w' ⟨rfl, rfl⟩))
  go_ret2
  exact ⟨rfl, rfl⟩
/-- What cover hands back where the star is there and t is long enough. -/
def covOf (t p x : ByteArray) : ByteArray := if (preB t p && sufB t x) = true then t.extract p.size (t.size - x.size) else { data := #[] }
theorem cover_star (p x t : ByteArray) (asc : Bool) (h : p.size + x.size ≤ t.size) (hp : t.size ≤ 1048576) (w : World) :
    Calls Yba.prog 6 #[.agg #[.string p, .string x, .bool true, .bool asc], .string t] w fun e w' =>
      e = .returned (.tuple #[.string (covOf t p x), .bool (preB t p && sufB t x)]) ∧ w' = w.alloc (.cells #[.string p, .string x, .bool true, .bool asc] 23) := by
  cases h1 : preB t p
  · have e : covOf t p x = { data := #[] } := by simp [covOf, h1]
    rw [e]; exact cover_no p x t asc h hp (.inl h1) w
  · cases h2 : sufB t x
    · have e : covOf t p x = { data := #[] } := by simp [covOf, h1, h2]
      rw [e]; exact cover_no p x t asc h hp (.inr ⟨h1, h2⟩) w
    · have e : covOf t p x = t.extract p.size (t.size - x.size) := by simp [covOf, h1, h2]
      rw [e]; exact cover_yes p x t asc h hp h1 h2 w
end Go.Proofs.Ybulkeczy
