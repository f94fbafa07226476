/-
  LawS6472BWhole: the law's own walk where props holds an element.
-/
import Derived.Test.YbulkeczyBCallees
import Derived.Deep.Cut
namespace Go.Proofs.Ybulkeczy
open Go.RowKit
set_option linter.unusedSimpArgs false
set_option linter.unusedVariables false
/-- The row of the law's props: six cells an element. -/
def Props (w : World) (b off n : Nat) : Prop := ∀ i, i < n → ∃ (x0 x1 x2 : ByteArray) (x3 : Bool) (x4 : ByteArray) (x5 : Bool),
  w.cell? ⟨b, off + i * 6, none⟩ = some (.string x0) ∧ w.cell? ⟨b, off + i * 6 + 1, none⟩ = some (.string x1) ∧ w.cell? ⟨b, off + i * 6 + 2, none⟩ = some (.string x2) ∧
  w.cell? ⟨b, off + i * 6 + 3, none⟩ = some (.bool x3) ∧ w.cell? ⟨b, off + i * 6 + 4, none⟩ = some (.string x4) ∧ w.cell? ⟨b, off + i * 6 + 5, none⟩ = some (.bool x5)
set_option maxRecDepth 100000 in
set_option maxHeartbeats 1000000 in
theorem law (ob rs : ByteArray) (b off n cap : Nat) (nm : ByteArray) (pick : Int) (hp0 : 0 ≤ pick) (hp1 : pick ≤ 255) (w : World) (hpos : 0 < n) (hmax : n ≤ 1048576) (hP : Props w b off n) (hb : b < w.heap.size) :
    Calls Yba.prog 4 #[.string ob, .string rs, .slice (some ⟨b, off, none⟩) n cap, .string nm, .int .u8 pick] w fun e w' => e = .returned (.bool true) ∧ Below w.heap.size w w' := by
  obtain ⟨i0, hi, hz0, hz1, hz2⟩ := info38
  have HP : Hid (Props w b off n) := hP
  have HI : Hid (Yba.prog.info? 38 = some i0) := hi
  clear hi hP
  have q29 := fun (w : World) (a : Option Addr) (l c : Nat) => run_neq_slice_nil (P := Yba.prog) w 29 _ a l c Yba.underlying29
  go_enter Yba.func4, Yba.ntmps4
  go_wp2_with (at_make; refine wpList_make_full _ rfl _ _ 30 rfl w.heap.size 38 i0 _ 4 Yba.underlying30 HI.out hz0 hz1 .i64 .i64 _ _ n rfl rfl rfl rfl ?q1 ?q2 ?q3 ?_)
  case q1 => rw [hz2]; omega
  case q2 => unfold maxLen; omega
  case q3 => exact Nat.le_refl _
  intro w1 hown hgrow
  rw [made_flat] at hown
  have HO : Hid (Own w1 w.heap.size n (List.replicate n zeroPC)) := hown
  have hb1 : Below w.heap.size w w1 := (Below.refl _ _).grown hgrow (Nat.le_refl _) (by intro k hk; cases hk)
  clear hown hgrow hz0 hz1 hz2 HI
  go_wp2
  go_loopw [12] (fun i wr => ∃ (k : Nat) (xs : List PC), k ≤ n ∧ i = .int .i64 k ∧ Hid (Own wr w.heap.size n xs) ∧ Below w.heap.size w wr) (fun i _ => n - (intOf i).toNat)
  case atStart => exact ⟨0, _, Nat.zero_le _, rfl, HO, hb1⟩
  case round =>
    clear HO hb1
    obtain ⟨k, xs, hk, rfl, HO, hbl⟩ := hrel
    have hsz := HO.out.lt
    by_cases hlt : k < n
    · obtain ⟨x0, x1, x2, x3, x4, x5, p0, p1, p2, p3, p4, p5⟩ := HP.out k hlt
      rw [← hbl.cell (p := ⟨b, off + k * 6, none⟩) hb] at p0
      rw [← hbl.cell (p := ⟨b, off + k * 6 + 1, none⟩) hb] at p1
      rw [← hbl.cell (p := ⟨b, off + k * 6 + 2, none⟩) hb] at p2
      rw [← hbl.cell (p := ⟨b, off + k * 6 + 3, none⟩) hb] at p3
      rw [← hbl.cell (p := ⟨b, off + k * 6 + 4, none⟩) hb] at p4
      rw [← hbl.cell (p := ⟨b, off + k * 6 + 5, none⟩) hb] at p5
      obtain ⟨x, hx⟩ : ∃ x, xs[k]? = some x := ⟨xs[k]'(by have := HO.out.len; omega), by simp⟩
      obtain ⟨c0, c1, c2, c3⟩ := HO.out.row k x hx
      have f0 := World.ownsRow.frozenAt HO.out (k * 4)
      have f1 := World.ownsRow.frozenAt HO.out (k * 4 + 1)
      have f2 := World.ownsRow.frozenAt HO.out (k * 4 + 2)
      have f3 := World.ownsRow.frozenAt HO.out (k * 4 + 3)
      clear hx
      go_wp2
      · go_roundw
        case rel =>
          exact ⟨k + 1, xs.set k ⟨x0, x1, some ⟨wr.heap.size + 1, 0, none⟩, x2⟩, by omega, by go_num, ((HO.out.stored k ⟨x0, x1, some ⟨wr.heap.size + 1, 0, none⟩, x2⟩).alloc _).alloc _,
            (((((hbl.setCell (Nat.le_refl _) _).setCell (Nat.le_refl _) _).setCell (Nat.le_refl _) _).setCell (Nat.le_refl _) _).alloc (by simp; omega) _).alloc (by simp; omega) _⟩
        case measure => simp [intOf]; omega
      · go_roundw
        case rel =>
          exact ⟨k + 1, xs.set k ⟨x0, x1, none, x2⟩, by omega, by go_num, (HO.out.stored k ⟨x0, x1, none, x2⟩).alloc _,
            ((((hbl.setCell (Nat.le_refl _) _).setCell (Nat.le_refl _) _).setCell (Nat.le_refl _) _).setCell (Nat.le_refl _) _).alloc (by simp; omega) _⟩
        case measure => simp [intOf]; omega
    · obtain rfl : k = n := by omega
      go_upto_if 65 with fail
      go_cut [3] from 21 (fun v wc => ∃ s : ByteArray, v = .string s ∧ wc = wr)
      case first =>
        have hm0 : 0 ≤ pick % (k : Int) := Int.emod_nonneg _ (by omega)
        have hm1 : pick % (k : Int) < (k : Int) := Int.emod_lt_of_pos _ (by omega)
        obtain ⟨x, hx⟩ : ∃ x, xs[(pick % (k : Int)).toNat]? = some x := ⟨xs[(pick % (k : Int)).toNat]'(by have := HO.out.len; omega), by simp⟩
        obtain ⟨c0, _, _, _⟩ := HO.out.row _ x hx
        clear hx
        go_wp2
        all_goals
          go_meet
          case rel => exact ⟨_, rfl, rfl⟩
      case rest =>
        obtain ⟨s, rfl, rfl⟩ := hcut
        have HR : Hid (Row wc w.heap.size xs) := HO.out.row
        have HC : Hid (∀ j u, (flat xs)[j]? = some u → wc.cell? ⟨w.heap.size, j, none⟩ = some u) := fun j u hj => (World.ownsRow.cellAt HO.out j (by have := (List.getElem?_eq_some_iff.1 hj).1; have := HO.out.1; omega)).trans hj
        have hn : Hid (xs.length = k) := HO.out.len
        clear HO HP q29 hp0 hp1
        go_wp2_with fail
        refine (clone w.heap.size k k xs _ hn.out hmax (fun j u hj => Lib.cell?_alloc_some _ (HC.out j u hj)) (by simp; omega)).mono ?_
        rintro e w2 ⟨g, cap2, rfl, hg1, hg2, hr2, hb2⟩
        have HR2 : Hid (Row w2 g xs) := hr2
        have HR1 : Hid (Row w2 w.heap.size xs) := Row.below (fun j x hj => by obtain ⟨a0, a1, a2, a3⟩ := HR.out j x hj; exact ⟨Lib.cell?_alloc_some _ a0, Lib.cell?_alloc_some _ a1, Lib.cell?_alloc_some _ a2, Lib.cell?_alloc_some _ a3⟩) hb2 (by simp; omega)
        have hz2 : wc.heap.size < w2.heap.size := by have := hb2.size; simp at this; omega
        have hb3 : Below w.heap.size w w2 := (hbl.alloc (by omega) _).trans (hb2.mono (by simp; omega))
        have e0 : w2.cell? ⟨wc.heap.size, 0, none⟩ = some (.string ob) := (hb2.cell (p := ⟨wc.heap.size, 0, none⟩) (by simp)).trans (by simp [go_sem])
        have e1 : w2.cell? ⟨wc.heap.size, 1, none⟩ = some (.string rs) := (hb2.cell (p := ⟨wc.heap.size, 1, none⟩) (by simp)).trans (by simp [go_sem])
        have e2 : w2.cell? ⟨wc.heap.size, 2, none⟩ = some (.slice (some ⟨w.heap.size, 0, none⟩) k k) := (hb2.cell (p := ⟨wc.heap.size, 2, none⟩) (by simp)).trans (by simp [go_sem])
        clear hr2 hb2 HC HR
        go_wp2_with fail
        have hprop := property ob rs w.heap.size k k xs s w2 hn.out hmax HR1.out (by omega)
        generalize hy : (found xs s).getD zeroPC = y at hprop
        generalize ho : (found xs s).isSome = ok at hprop
        have HY : Hid ((found xs s).getD zeroPC = y) := hy
        have HOK : Hid ((found xs s).isSome = ok) := ho
        clear hy ho
        simp only [PC.agg] at hprop
        refine hprop.mono ?_
        rintro e w3 ⟨rfl, hb4⟩
        clear hprop
        have hz3 : w2.heap.size ≤ w3.heap.size := hb4.size
        have hb5 : Below w.heap.size w w3 := hb3.trans (hb4.mono (by omega))
        have e3 : w3.cell? ⟨wc.heap.size, 0, none⟩ = some (.string ob) := (hb4.cell (p := ⟨wc.heap.size, 0, none⟩) hz2).trans e0
        have e4 : w3.cell? ⟨wc.heap.size, 1, none⟩ = some (.string rs) := (hb4.cell (p := ⟨wc.heap.size, 1, none⟩) hz2).trans e1
        have e5 : w3.cell? ⟨wc.heap.size, 2, none⟩ = some (.slice (some ⟨w.heap.size, 0, none⟩) k k) := (hb4.cell (p := ⟨wc.heap.size, 2, none⟩) hz2).trans e2
        have HR3 : Hid (Row w3 w.heap.size xs) := HR1.out.below hb4 (by omega)
        have HR4 : Hid (Row w3 g xs) := HR2.out.below hb4 hg2
        clear e0 e1 e2 HR1 HR2 hb4 hb3
        go_wp2_with fail
        refine (equal w.heap.size g k k cap2 xs _ hn.out hmax ?r1 ?r2).mono ?_
        case r1 => exact Row.below HR3.out ((Below.refl _ _).alloc (Nat.le_refl _) _) (by omega)
        case r2 => exact Row.below HR4.out ((Below.refl _ _).alloc (Nat.le_refl _) _) (by omega)
        rintro e w4 ⟨rfl, q, rfl⟩
        clear HR4
        have hzz : wc.heap.size < w3.heap.size := by omega
        have hzb : w.heap.size < w3.heap.size := by omega
        go_wp2
        go_loop [19, 20] (fun d j => ∃ I J : Int, d = .int .i64 I ∧ j = .int .i64 J ∧ -1 ≤ J ∧ J < k ∧ Hid (Idx xs s J I)) (fun _ j => (intOf j + 1).toNat)
        case atStart => exact ⟨-1, (k : Int) - 1, rfl, rfl, by omega, by omega, Idx.start xs s k hn.out⟩
        case round =>
          obtain ⟨I, J, rfl, rfl, hJ0, hJ1, HX⟩ := hrel
          by_cases hJ : 0 ≤ J
          · obtain ⟨m, rfl⟩ : ∃ m : Nat, J = (m : Int) := ⟨J.toNat, by omega⟩
            obtain ⟨x, hx⟩ : ∃ x, xs[m]? = some x := ⟨xs[m]'(by have := hn.out; omega), by simp⟩
            obtain ⟨c0, _, _, _⟩ := HR3.out m x hx
            have HXX : Hid (xs[m]? = some x) := hx
            clear hx
            go_wp2
            · go_round
              case rel => exact ⟨_, _, rfl, rfl, by omega, by omega, Idx.hit HXX.out ‹(x.nm.toList == s.toList) = true›⟩
              case measure => simp [intOf]
            · go_round
              case rel => exact ⟨_, _, rfl, rfl, by omega, by omega, Idx.miss HX.out HXX.out ‹(x.nm.toList == s.toList) = false›⟩
              case measure => simp [intOf]
          · obtain rfl : J = -1 := by omega
            rcases HX.out.fin with ⟨rfl, hf⟩ | ⟨m, x, rfl, hx, hf⟩
            · have h1 : zeroPC = y := by have := HY.out; rw [hf] at this; exact this
              have h2 : false = ok := by have := HOK.out; rw [hf] at this; exact this
              subst h1 h2
              clear hf HY HOK HX
              have ke := eqlPC
              simp only [zeroPC] at *
              go_wp2
              go_ret
              exact ⟨rfl, below_drewN (hb5.alloc (by omega) _) q⟩
            · have h1 : x = y := by have := HY.out; rw [hf] at this; exact this
              have h2 : true = ok := by have := HOK.out; rw [hf] at this; exact this
              subst h1 h2
              obtain ⟨c0, c1, c2, c3⟩ := HR3.out m x hx
              have hm : m < k := by have := (List.getElem?_eq_some_iff.1 hx).1; have := hn.out; omega
              clear hf HY HOK HX hx
              have ke := eqlPC
              go_wp2
              go_quiet (fail)
              go_wp2
              go_ret
              exact ⟨rfl, below_drewN (below_drewN (hb5.alloc (by omega) _) _) _⟩
end Go.Proofs.Ybulkeczy
