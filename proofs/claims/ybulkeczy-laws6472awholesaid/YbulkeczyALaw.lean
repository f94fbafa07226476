/-
  LawS6472AWhole: the law's own walk.
-/
import Derived.Test.YbulkeczyAPlain
namespace Go.Proofs.Ybulkeczy
open Go.RowKit
set_option linter.unusedSimpArgs false
set_option linter.unusedVariables false
/-- The law's pattern p, in block g. -/
def Pat (w : World) (g : Nat) (p x : ByteArray) (st asc : Bool) : Prop :=
  w.cell? ⟨g, 0, none⟩ = some (.string p) ∧ w.cell? ⟨g, 1, none⟩ = some (.string x) ∧ w.cell? ⟨g, 2, none⟩ = some (.bool st) ∧ w.cell? ⟨g, 3, none⟩ = some (.bool asc)
set_option maxHeartbeats 400000 in
theorem alaw_big (p x m s : ByteArray) (st asc : Bool) (sel : Int) (w : World) (hp : p.size ≤ 140737488351232) (hx : x.size ≤ 140737488351232) (hm : m.size ≤ 140737488351232) (hs : s.size ≤ 140737488351232) (hbig : 1048576 < p.size + x.size + m.size + s.size) :
    Calls Yba.prog 3 #[.string p, .string x, .string m, .string s, .bool st, .bool asc, .int .u8 sel] w fun e w' => e = .returned (.bool true) ∧ Below w.heap.size w w' := by
  go_enter Yba.func3, Yba.ntmps3
  go_wp2
  go_ret
  exact ⟨rfl, Below.refl _ _⟩
set_option maxHeartbeats 1000000 in
theorem alaw_plain (p x m s : ByteArray) (asc : Bool) (sel : Int) (h0 : 0 ≤ sel) (h1 : sel ≤ 255) (w : World) (hs : p.size + x.size + m.size + s.size ≤ 1048576) :
    Calls Yba.prog 3 #[.string p, .string x, .string m, .string s, .bool false, .bool asc, .int .u8 sel] w fun e w' => e = .returned (.bool true) ∧ Below w.heap.size w w' := by
  go_enter Yba.func3, Yba.ntmps3
  go_wp2_with fail
  refine (build sel h0 h1 p x m s hs _).mono ?_
  rintro e w1 ⟨t, rfl, ht, rfl⟩
  go_wp2_with fail
  refine (cover_plain p x t asc _).mono ?_
  rintro e w2 ⟨rfl, q, rfl⟩
  go_wp2
  go_ret
  exact ⟨rfl, below_drewN (((Below.refl _ _).alloc (Nat.le_refl _) _).alloc (by simp) _) _⟩
theorem info5 : ∃ i0 : TypeInfo, Yba.prog.info? 5 = some i0 ∧ i0.zero = some (.int .u8 0) ∧ i0.size = 1 ∧ i0.bytes = 1 :=
  ⟨(Yba.prog.info? 5).getD default, by kernel_rfl, by kernel_rfl, by kernel_rfl, by kernel_rfl⟩
set_option maxRecDepth 100000 in
set_option maxHeartbeats 1000000 in
theorem alaw_star (p x m s : ByteArray) (asc : Bool) (sel : Int) (h0 : 0 ≤ sel) (h1 : sel ≤ 255) (w : World) (hs : p.size + x.size + m.size + s.size ≤ 1048576) :
    Calls Yba.prog 3 #[.string p, .string x, .string m, .string s, .bool true, .bool asc, .int .u8 sel] w fun e w' => e = .returned (.bool true) ∧ Below w.heap.size w w' := by
  go_enter Yba.func3, Yba.ntmps3
  go_wp2_with fail
  refine (build sel h0 h1 p x m s hs _).mono ?_
  rintro e w1 ⟨t, rfl, ht, rfl⟩
  clear h0 h1
  by_cases hlen : t.size < p.size + x.size
  · go_wp2_with fail
    refine (cover_short p x t asc hlen (by omega) _).mono ?_
    rintro e w2 ⟨rfl, rfl⟩
    go_wp2
    go_ret
    exact ⟨rfl, ((Below.refl _ _).alloc (Nat.le_refl _) _).alloc (by simp) _⟩
  have hlen' : p.size + x.size ≤ t.size := by omega
  clear hlen
  have HE : Hid ((eqUp t p 0 p.size && eqUp t x (t.size - x.size) x.size) = (preB t p && sufB t x)) := by
    rw [preB_eq t p (by omega), sufB_eq t x (by omega)]; exact rfl
  have HV : Hid (((preB t p && sufB t x) = true → covOf t p x = t.extract p.size (t.size - x.size)) ∧ ((preB t p && sufB t x) = false → covOf t p x = { data := #[] })) :=
    ⟨fun h => if_pos h, fun h => if_neg (by rw [h]; exact Bool.false_ne_true)⟩
  go_wp2_with fail
  have hcov := cover_star p x t asc hlen' ht
  generalize covOf t p x = cov at hcov HV
  generalize (preB t p && sufB t x) = r at hcov HV HE
  refine (hcov _).mono ?_
  rintro e w2 ⟨rfl, hw2⟩
  clear hcov
  have hb2 : Below w.heap.size w w2 := by subst hw2; exact ((Below.refl _ _).alloc (Nat.le_refl _) _).alloc (by simp) _
  have hz : w.heap.size < w2.heap.size := by subst hw2; simp; omega
  have e0 : w2.cell? ⟨w.heap.size, 0, none⟩ = some (.string p) := by subst hw2; simp [go_sem]
  have e1 : w2.cell? ⟨w.heap.size, 1, none⟩ = some (.string x) := by subst hw2; simp [go_sem]
  have e2 : w2.cell? ⟨w.heap.size, 2, none⟩ = some (.bool true) := by subst hw2; simp [go_sem]
  have e3 : w2.cell? ⟨w.heap.size, 3, none⟩ = some (.bool asc) := by subst hw2; simp [go_sem]
  clear hw2
  go_wp2
  go_loopw [19, 24] (fun ok i wr => ∃ k q : Nat, k ≤ p.size ∧ i = .int .i64 k ∧ ok = .bool (eqUp t p 0 k) ∧ wr = w2.drewN q) (fun _ i _ => p.size - (intOf i).toNat)
  case atStart => exact ⟨0, 0, Nat.zero_le _, rfl, by rw [eqUp_zero], rfl⟩
  case round =>
    obtain ⟨k, q, hk, rfl, rfl, rfl⟩ := hrel
    by_cases hlt : k < p.size
    · have i1 : (k : Int) < (t.size : Int) := by omega
      have i2 : (k : Int) < (p.size : Int) := by omega
      have i3 : k < t.size := by omega
      have i4 : 0 ≤ (k : Int) := by omega
      go_wp2
      go_quiet (fail)
      go_wp2
      · go_roundw
        case rel => exact ⟨k + 1, _, by omega, by go_num, by rw [eqUp_ne0 t p k i3 hlt ‹_›], rfl⟩
        case measure => simp [intOf]; omega
      · go_roundw
        case rel => exact ⟨k + 1, _, by omega, by go_num, by rw [eqUp_succ0 t p k i3 hlt ‹_›], rfl⟩
        case measure => simp [intOf]; omega
    · obtain rfl : k = p.size := by omega
      generalize eqUp t p 0 p.size = r1 at HE ⊢
      go_wp2
      go_loopw [19, 25] (fun ok i wr => ∃ k q : Nat, k ≤ x.size ∧ i = .int .i64 k ∧ ok = .bool (r1 && eqUp t x (t.size - x.size) k) ∧ wr = w2.drewN q) (fun _ i _ => x.size - (intOf i).toNat)
      case atStart => exact ⟨0, q, Nat.zero_le _, rfl, by rw [eqUp_zero, Bool.and_true], rfl⟩
      case round =>
        obtain ⟨k, q, hk, rfl, rfl, rfl⟩ := hrel
        by_cases hlt : k < x.size
        · have i1 : (t.size : Int) - (x.size : Int) + (k : Int) < (t.size : Int) := by omega
          have i2 : (k : Int) < (x.size : Int) := by omega
          have i3 : t.size - x.size + k < t.size := by omega
          have i4 : 0 ≤ (k : Int) := by omega
          have i5 : 0 ≤ (t.size : Int) - (x.size : Int) + (k : Int) := by omega
          go_wp2
          go_quiet (fail)
          go_wp2
          · go_roundw
            case rel => exact ⟨k + 1, _, by omega, by go_num, by rw [eqUp_ne t x _ k i3 hlt ‹_›, Bool.and_false], rfl⟩
            case measure => simp [intOf]; omega
          · go_roundw
            case rel => exact ⟨k + 1, _, by omega, by go_num, by rw [eqUp_succ t x _ k i3 hlt ‹_›], rfl⟩
            case measure => simp [intOf]; omega
        · obtain rfl : k = x.size := by omega
          rw [HE.out]
          clear HE
          cases r
          · obtain rfl : cov = { data := #[] } := HV.out.2 rfl
            clear HV
            go_wp2
            go_ret
            exact ⟨rfl, below_drewN hb2 _⟩
          · obtain rfl : cov = t.extract p.size (t.size - x.size) := HV.out.1 rfl
            clear HV
            obtain ⟨j0, hi, hz0, hz1, hz2⟩ := info5
            have HI : Hid (Yba.prog.info? 5 = some j0) := hi
            clear hi
            go_wp2_with (at_make; refine wpList_make_own _ rfl _ _ 27 rfl w2.heap.size 5 j0 _ 1 Yba.underlying27 HI.out hz0 hz1 .i64 .i64 _ (t.size - p.size - x.size) rfl rfl ?q0 ?q1 ?q2 ?q3 ?_)
            case q0 => omega
            case q1 => rw [hz2]; omega
            case q2 => unfold maxLen; omega
            case q3 => exact Nat.le_refl _
            intro w3 hown hgrow
            have HO : Hid (w3.ownsRow w2.heap.size 5 1 (.slice (some ⟨w2.heap.size, 0, none⟩) 0 (t.size - p.size - x.size)) 0 []) := hown
            have hb3 : Below w2.heap.size w2 w3 := (below_drewN (Below.refl _ _) q).grown hgrow (Nat.le_refl _) (by intro k hk; cases hk)
            clear hown hgrow
            go_wp2
            go_loopw [26, 27] (fun b i wr => ∃ c : Nat, c ≤ t.size - p.size - x.size ∧ i = .int .i64 ((p.size : Int) + (c : Int)) ∧ b = .slice (some ⟨w2.heap.size, 0, none⟩) c (t.size - p.size - x.size) ∧ Hid (wr.ownsRow w2.heap.size 5 1 (.slice (some ⟨w2.heap.size, 0, none⟩) c (t.size - p.size - x.size)) c ((nums t p.size c).map (Value.int .u8))) ∧ Below w2.heap.size w2 wr) (fun _ i _ => t.size - (intOf i).toNat)
            case atStart => exact ⟨0, Nat.zero_le _, by simp, rfl, by simpa [nums] using HO, hb3⟩
            case round =>
              clear HO hb3
              obtain ⟨c, hc, rfl, rfl, HO, hb3⟩ := hrel
              have hlt3 : w2.heap.size < wr.heap.size := (World.ownsRow.lt HO.out w2.heap.size rfl).2
              by_cases hlt : c < t.size - p.size - x.size
              · have i1 : (p.size : Int) + (c : Int) < (t.size : Int) := by omega
                have i2 : p.size + c < t.size := by omega
                have i3 : (p.size : Int) + (c : Int) < (t.size : Int) - (x.size : Int) := by omega
                go_wp2_with (at_builtin; refine wpList_append_fits _ rfl _ _ 27 rfl w2.heap.size 5 j0 1 Yba.underlying27 HI.out hz1 w2.heap.size c (t.size - p.size - x.size) ((nums t p.size c).map (Value.int .u8)) rfl ?c0 ⟨wr.heap.size, 0, none⟩ 1 1 [.int .u8 ((t[p.size + c]'i2).toNat : Int)] rfl rfl ?c1 ?c2 ?c3 ?_)
                case c0 => exact World.ownsRow.alloc HO.out _
                case c1 => exact cell_one_new _ _ _
                case c2 =>
                  intro u hu
                  rw [List.mem_singleton] at hu
                  subst hu
                  rfl
                case c3 => omega
                intro w4 hown hgrow
                have HO4 : Hid (w4.ownsRow w2.heap.size 5 1 (.slice (some ⟨w2.heap.size, 0, none⟩) (c + 1) (t.size - p.size - x.size)) (c + 1) ((nums t p.size (c + 1)).map (Value.int .u8))) := by
                  rw [nums_snoc t p.size c i2, List.map_append]; exact hown
                have hb4 : Below w2.heap.size w2 w4 := (hb3.alloc (by omega) _).grown hgrow (by simp; omega) (by intro k hk; cases hk; exact Nat.le_refl _)
                clear hown hgrow HO hb3
                go_wp2
                go_roundw
                case rel => exact ⟨c + 1, by omega, by go_num, rfl, HO4, hb4⟩
                case measure => simp [intOf]; omega
              · obtain rfl : c = t.size - p.size - x.size := by omega
                have hcv : (convert 27 9 (.slice (some ⟨w2.heap.size, 0, none⟩) (t.size - p.size - x.size) (t.size - p.size - x.size))).run Yba.prog wr = .ok (.string (t.extract p.size (t.size - x.size))) wr := by
                  have := run_convert_bytes_arg (P := Yba.prog) wr 27 5 Yba.underlying27 Yba.underlying5 w2.heap.size 0 (t.size - p.size - x.size) (t.size - p.size - x.size) (nums t p.size (t.size - p.size - x.size)) (nums_length t p.size _ (by omega)) (fun i hi => by
                    have hl := nums_length t p.size (t.size - p.size - x.size) (by omega)
                    rw [Nat.zero_add, World.ownsRow.cellAt HO.out i (by omega), List.getElem?_map, List.getElem?_eq_getElem (by omega), Option.map_some, List.getD_eq_getElem?_getD, List.getElem?_eq_getElem (by omega)]
                    rfl) 9 Yba.underlying9
                  rw [show t.size - p.size - x.size = t.size - x.size - p.size by omega] at this ⊢
                  rw [str_nums] at this
                  exact this
                have g0 := (hb3.cell (p := ⟨w.heap.size, 0, none⟩) hz).trans e0
                have g1 := (hb3.cell (p := ⟨w.heap.size, 1, none⟩) hz).trans e1
                have g2 := (hb3.cell (p := ⟨w.heap.size, 2, none⟩) hz).trans e2
                have g3 := (hb3.cell (p := ⟨w.heap.size, 3, none⟩) hz).trans e3
                clear HO
                go_wp2
                go_ret
                exact ⟨rfl, hb2.trans (hb3.mono (by omega))⟩
end Go.Proofs.Ybulkeczy
