/-
  LawS6472BWhole: the law's own walk where props holds no element: nil; empty but not nil; and where it holds more than 1<<20.
-/
import Derived.Test.YbulkeczyBCallees
namespace Go.Proofs.Ybulkeczy
open Go.RowKit
set_option linter.unusedSimpArgs false
set_option linter.unusedVariables false
set_option maxHeartbeats 400000 in
theorem law_big (ob rs : ByteArray) (a : Option Addr) (n cap : Nat) (nm : ByteArray) (pick : Int) (w : World) (hbig : ¬ n ≤ 1048576) :
    Calls Yba.prog 4 #[.string ob, .string rs, .slice a n cap, .string nm, .int .u8 pick] w fun e w' => e = .returned (.bool true) ∧ Below w.heap.size w w' := by
  have hb : 1048576 < n := by omega
  clear hbig
  go_enter Yba.func4, Yba.ntmps4
  go_wp2
  go_ret
  exact ⟨rfl, Below.refl _ _⟩
set_option maxRecDepth 100000 in
set_option maxHeartbeats 1000000 in
theorem law_nil (ob rs : ByteArray) (nm : ByteArray) (pick : Int) (w : World) :
    Calls Yba.prog 4 #[.string ob, .string rs, .slice none 0 0, .string nm, .int .u8 pick] w fun e w' => e = .returned (.bool true) ∧ Below w.heap.size w w' := by
  have q29 := fun (w : World) (a : Option Addr) (l c : Nat) => run_neq_slice_nil (P := Yba.prog) w 29 _ a l c Yba.underlying29
  go_enter Yba.func4, Yba.ntmps4
  go_wp2
  go_loop [12] (fun i => i = .int .i64 0) (fun _ => 0)
  case atStart => rfl
  case round =>
    obtain rfl := hrel
    go_wp2_with fail
    refine (clone_nil _).mono ?_
    rintro e w2 ⟨rfl, rfl⟩
    go_wp2_with fail
    have hprop := property_nil ob rs nm (w.alloc (.cells #[.string ob, .string rs, .slice none 0 0] 40))
    simp only [PC.agg, zeroPC] at hprop
    refine hprop.mono ?_
    rintro e w3 ⟨rfl, hb4⟩
    clear hprop
    have hz3 : w.heap.size + 1 ≤ w3.heap.size := by have := hb4.size; simpa using this
    have hb5 : Below w.heap.size w w3 := ((Below.refl _ _).alloc (Nat.le_refl _) _).trans (hb4.mono (by simp))
    have e3 : w3.cell? ⟨w.heap.size, 0, none⟩ = some (.string ob) := (hb4.cell (p := ⟨w.heap.size, 0, none⟩) (by simp)).trans (by simp [go_sem])
    have e4 : w3.cell? ⟨w.heap.size, 1, none⟩ = some (.string rs) := (hb4.cell (p := ⟨w.heap.size, 1, none⟩) (by simp)).trans (by simp [go_sem])
    have e5 : w3.cell? ⟨w.heap.size, 2, none⟩ = some (.slice none 0 0) := (hb4.cell (p := ⟨w.heap.size, 2, none⟩) (by simp)).trans (by simp [go_sem])
    have hzb : w.heap.size < w3.heap.size := by omega
    clear hb4
    go_wp2_with fail
    refine (equal_nil _).mono ?_
    rintro e w4 ⟨rfl, rfl⟩
    go_wp2
    go_loop [19, 20] (fun d j => d = .int .i64 (-1) ∧ j = .int .i64 (-1)) (fun _ _ => 0)
    case atStart => exact ⟨rfl, rfl⟩
    case round =>
      obtain ⟨rfl, rfl⟩ := hrel
      have ke := eqlPC
      go_wp2
      go_ret
      exact ⟨rfl, hb5.alloc (by omega) _⟩
set_option maxRecDepth 100000 in
set_option maxHeartbeats 1000000 in
theorem law_zero (ob rs : ByteArray) (a : Addr) (cap : Nat) (nm : ByteArray) (pick : Int) (w : World) :
    Calls Yba.prog 4 #[.string ob, .string rs, .slice (some a) 0 cap, .string nm, .int .u8 pick] w fun e w' => e = .returned (.bool true) ∧ Below w.heap.size w w' := by
  obtain ⟨i0, hi, hz0, hz1, hz2⟩ := info38
  have HI : Hid (Yba.prog.info? 38 = some i0) := hi
  clear hi
  have q29 := fun (w : World) (a : Option Addr) (l c : Nat) => run_neq_slice_nil (P := Yba.prog) w 29 _ a l c Yba.underlying29
  go_enter Yba.func4, Yba.ntmps4
  go_wp2_with (at_make; refine wpList_make_full _ rfl _ _ 30 rfl w.heap.size 38 i0 _ 4 Yba.underlying30 HI.out hz0 hz1 .i64 .i64 _ _ 0 rfl rfl rfl rfl ?q1 ?q2 ?q3 ?_)
  case q1 => omega
  case q2 => exact Nat.zero_le _
  case q3 => exact Nat.le_refl _
  intro w1 hown hgrow
  have hlt : w.heap.size < w1.heap.size := (World.ownsRow.lt hown w.heap.size rfl).2
  have hbl : Below w.heap.size w w1 := (Below.refl _ _).grown hgrow (Nat.le_refl _) (by intro k hk; cases hk)
  clear hown hgrow hz0 hz1 hz2 HI
  go_wp2
  go_loop [12] (fun i => i = .int .i64 0) (fun _ => 0)
  case atStart => rfl
  case round =>
    obtain rfl := hrel
    go_wp2_with fail
    refine (clone w.heap.size 0 0 [] _ rfl (by omega) (fun j u hj => by simp [flat] at hj) (by simp; omega)).mono ?_
    rintro e w2 ⟨g, cap2, rfl, hg1, hg2, hr2, hb2⟩
    have hz2 : w1.heap.size < w2.heap.size := by have := hb2.size; simp at this; omega
    have hb3 : Below w.heap.size w w2 := (hbl.alloc (by omega) _).trans (hb2.mono (by simp; omega))
    have e0 : w2.cell? ⟨w1.heap.size, 0, none⟩ = some (.string ob) := (hb2.cell (p := ⟨w1.heap.size, 0, none⟩) (by simp)).trans (by simp [go_sem])
    have e1 : w2.cell? ⟨w1.heap.size, 1, none⟩ = some (.string rs) := (hb2.cell (p := ⟨w1.heap.size, 1, none⟩) (by simp)).trans (by simp [go_sem])
    have e2 : w2.cell? ⟨w1.heap.size, 2, none⟩ = some (.slice (some ⟨w.heap.size, 0, none⟩) 0 0) := (hb2.cell (p := ⟨w1.heap.size, 2, none⟩) (by simp)).trans (by simp [go_sem])
    clear hr2 hb2
    go_wp2_with fail
    have hprop := property ob rs w.heap.size 0 0 [] nm w2 rfl (by omega) (fun j x hj => by simp at hj) (by omega)
    simp only [PC.agg, zeroPC, found, List.find?_nil, Option.getD_none, Option.isSome_none] at hprop
    refine hprop.mono ?_
    rintro e w3 ⟨rfl, hb4⟩
    clear hprop
    have hz3 : w2.heap.size ≤ w3.heap.size := hb4.size
    have hb5 : Below w.heap.size w w3 := hb3.trans (hb4.mono (by omega))
    have e3 : w3.cell? ⟨w1.heap.size, 0, none⟩ = some (.string ob) := (hb4.cell (p := ⟨w1.heap.size, 0, none⟩) hz2).trans e0
    have e4 : w3.cell? ⟨w1.heap.size, 1, none⟩ = some (.string rs) := (hb4.cell (p := ⟨w1.heap.size, 1, none⟩) hz2).trans e1
    have e5 : w3.cell? ⟨w1.heap.size, 2, none⟩ = some (.slice (some ⟨w.heap.size, 0, none⟩) 0 0) := (hb4.cell (p := ⟨w1.heap.size, 2, none⟩) hz2).trans e2
    clear e0 e1 e2 hb4 hb3
    have hzb : w1.heap.size < w3.heap.size := by omega
    go_wp2_with fail
    refine (equal w.heap.size g 0 0 cap2 [] _ rfl (by omega) (fun j x hj => by simp at hj) (fun j x hj => by simp at hj)).mono ?_
    rintro e w4 ⟨rfl, q, rfl⟩
    go_wp2
    go_loop [19, 20] (fun d j => d = .int .i64 (-1) ∧ j = .int .i64 (-1)) (fun _ _ => 0)
    case atStart => exact ⟨rfl, rfl⟩
    case round =>
      obtain ⟨rfl, rfl⟩ := hrel
      have ke := eqlPC
      go_wp2
      go_ret
      exact ⟨rfl, below_drewN (hb5.alloc (by omega) _) q⟩
end Go.Proofs.Ybulkeczy
