/-
  LawS6470BWhole: the law's own walk: its loop over the steps.
-/
import Derived.Test.YbulkecywMore
import Derived.Deep.Cut
import Derived.Deep.CutRange
import Derived.Deep.QuietTactic
import Derived.BigQuiet
import Derived.Deep.RegionWith
namespace Go.Proofs.Ybulkecyw
open Go.RowKit Go.MuLone
set_option linter.unusedSimpArgs false
set_option linter.unusedVariables false
set_option maxRecDepth 100000 in
set_option maxHeartbeats 2000000 in
/-- The law's walk on a slice that lies somewhere. -/
theorem law (b off n cap : Nat) (w : World) (hmax : n ≤ 65536) (hS : Steps w b off n) (hb : 0 < n → b < w.heap.size) :
    Calls Yba.prog 3 #[.slice (some ⟨b, off, none⟩) n cap] w fun e w' => e = .returned (.bool true) ∧ Below w.heap.size w w' := by
  have HS : Hid (Steps w b off n) := hS
  have HI0 : Hid (Inv w w.heap.size _ [] none) := inv0 w
  clear hS
  go_enter Yba.func3, Yba.ntmps3
  go_wp2
  go_loopw [7, 8] (fun c i wr => ∃ (p : Nat) (R : List Rec) (m : Option Nat), p ≤ n ∧ R.length ≤ p ∧ i = .int .i64 p ∧ c = .int .i64 (R.length : Int) ∧ Hid (Inv w w.heap.size wr R m)) (fun _ i _ => n - (intOf i).toNat)
  case atStart => exact ⟨0, [], none, Nat.zero_le _, Nat.zero_le _, rfl, rfl, HI0⟩
  case round =>
    clear HI0
    obtain ⟨p, R, m, hpn, hRl, rfl, rfl, HI⟩ := hrel
    by_cases hlt : p < n
    · obtain ⟨op, key, st, ho, hk, s0, s1, s2⟩ := HS.out p hlt
      have hbw := hb (by omega)
      rw [← HI.out.below.cell (p := ⟨b, off + p * 3, none⟩) hbw] at s0
      rw [← HI.out.below.cell (p := ⟨b, off + p * 3 + 1, none⟩) hbw] at s1
      rw [← HI.out.below.cell (p := ⟨b, off + p * 3 + 2, none⟩) hbw] at s2
      obtain ⟨k, hk4, hkk⟩ : ∃ k : Nat, k < 4 ∧ key % 4 = (k : Int) := ⟨(key % 4).toNat, by omega, by omega⟩
      go_upto_if 42 with fail
      clear s0 s1 s2 hkk hk hbw
      obtain ⟨V, hV⟩ : ∃ V, wr.alloc (.cells #[.int .u8 op, .int .u8 key, .int .i64 st] 40) = V := ⟨_, rfl⟩
      rw [hV]
      have HIV : Hid (Inv w w.heap.size V R m) := by rw [← hV]; exact HI.out.alloc _
      have HVB : Hid (Blk V wr.heap.size 40 #[.int .u8 op, .int .u8 key, .int .i64 st]) := by rw [← hV]; exact blk_last _ _ _ _ rfl
      clear hV HI
      go_cut [7] from 25 to 174 (fun c wc => ∃ (R' : List Rec) (m' : Option Nat), c = .int .i64 (R'.length : Int) ∧ R'.length ≤ p + 1 ∧ Hid (Inv w w.heap.size wc R' m'))
      case first =>
        have ck := HIV.out.c4 hk4
        have co : V.cell? ⟨wr.heap.size, 0, none⟩ = some (.int .u8 op) := HVB.out.cell 0
        by_cases hev : op % 2 = 0
        · cases hh : has R k
          · rw [hh] at ck
            have q37 := eql_func_nil
            have q44 := eql_chan_nil
            go_wp2_with (
              go_at_call 4
              refine (lockA (w := w) w.heap.size k R m V HIV.out hk4 hh).mono ?_
              rintro e V2 ⟨r, M, rfl, hL⟩
              have HL : Hid (AfterL w w.heap.size k R r M V2) := hL
              have ck4 := hL.c4 hk4
              rw [hh] at ck4
              have cg : V2.cell? ⟨w.heap.size, 2, none⟩ = some (.map (some M)) := by obtain ⟨q, hB⟩ := hL.grp; exact hB.cell 2
              have clk := hL.look
              have ch0 : V2.cell? ⟨r.hb, 0, none⟩ = some (.chan (some r.ch)) := hL.hold.cell 0
              have ch1 : V2.cell? ⟨r.hb, 1, none⟩ = some (.int .i64 0) := hL.hold.cell 1
              clear hL co ck HVB)
            clear cg clk ch0 ch1 ck4 q37 q44 HIV
            go_loopw [15] (fun j wj => ∃ (t : Nat), t ≤ 4 ∧ j = .int .i64 (t : Int) ∧ wj = V2) (fun j _ => 4 - (intOf j).toNat)
            case atStart => exact ⟨0, Nat.zero_le _, rfl, rfl⟩
            case round =>
              obtain ⟨t, ht, rfl, rfl⟩ := hrel
              by_cases hlt4 : t < 4
              · have cj4 := HL.out.c4 hlt4
                have cj5 := HL.out.c5 hlt4
                have hlt4' : (t : Int) < 4 := by omega
                cases hj : has R t
                · rw [hj] at cj4
                  clear cj5
                  go_wp2
                  go_roundw
                  case rel => exact ⟨t + 1, hlt4, rfl, trivial⟩
                  case measure => simp [intOf]; omega
                · rw [hj] at cj4
                  obtain ⟨b', e1, e2, cs, e3⟩ := HL.out.olds t hj
                  rw [e1] at cj5
                  have q35 : (binOp .eql 35 (.pointer (some ⟨b', 0, none⟩)) (.pointer (some ⟨r.hb, 0, none⟩))).run Yba.prog _ = .ok (.bool false) _ := eql_ptr_other _ b' r.hb e2 e3 HL.out.hold
                  clear e1 e2 e3
                  go_wp2
                  go_roundw
                  case rel => exact ⟨t + 1, hlt4, rfl, trivial⟩
                  case measure => simp [intOf]; omega
              · obtain rfl : t = 4 := by omega
                have ck4 := HL.out.c4 hk4
                have ck5 := HL.out.c5 hk4
                have ck6 := HL.out.c6 hk4
                have fk4 := HL.out.a4.frozen k
                have fk5 := HL.out.a5.frozen k
                have fk6 := HL.out.a6.frozen k
                have hRl2 : (R.length : Int) ≤ 65536 := by omega
                go_wp2
                go_meet
                case rel => exact ⟨R ++ [r], some M, by simp, by simp; omega, HL.out.fin⟩
          · clear ck
            obtain ⟨R1, r, R2, rfl, hrk, h1⟩ := split_of hh
            have q37 := neq_nilFunc
            have q35 : ∀ (w : World) (b : Nat), (binOp .neq 35 (.pointer (some ⟨b, 0, none⟩)) (.pointer (some ⟨b, 0, none⟩))).run Yba.prog w = .ok (.bool false) w := neq_ptr_same
            go_wp2_with (
              go_at_call 4
              refine (lock_held w.heap.size m R1 R2 r k V hrk h1 HIV.out.grp HIV.out.maps).mono ?_
              rintro e V2 ⟨rfl, q, hV2⟩
              have HI2 : Hid (Inv w w.heap.size V2 (R1 ++ r :: R2) m) := by rw [hV2]; exact ((HIV.out.alloc _).alloc _).drewN q
              clear hV2 HIV HVB co
              have ck4 := HI2.out.c4 hk4
              have ck5 := HI2.out.c5 hk4
              rw [hh] at ck4
              rw [hp_mid hrk h1] at ck5)
            go_meet
            case rel => exact ⟨R1 ++ r :: R2, m, by simp, Nat.le_succ_of_le hRl, HI2⟩
        · cases hh : has R k
          · rw [hh] at ck
            go_wp2
            go_meet
            case rel => exact ⟨R, m, rfl, Nat.le_succ_of_le hRl, HIV⟩
          · clear ck
            obtain ⟨R1, r, R2, rfl, hrk, h1⟩ := split_of hh
            subst hrk
            obtain ⟨L, hL⟩ : ∃ L : Nat, (R1 ++ r :: R2).length = L := ⟨_, rfl⟩
            rw [hL]
            obtain ⟨M, rfl⟩ : ∃ M, m = some M := by
              rcases HIV.out.maps with ⟨_, e⟩ | ⟨M, e, _⟩
              · simp at e
              · exact ⟨M, e⟩
            have ck4 := HIV.out.c4 hk4
            have ck5 := HIV.out.c5 hk4
            have ck6 := HIV.out.c6 hk4
            have cs2 : V.cell? ⟨wr.heap.size, 2, none⟩ = some (.int .i64 st) := HVB.out.cell 2
            rw [hh] at ck4
            rw [hp_mid rfl h1] at ck5
            rw [uf_mid rfl h1] at ck6
            have hk4' : (r.k : Int) < 4 := by omega
            go_wp2
            go_cut [] from 25 to 131 (fun wx => Hid (AfterU w w.heap.size R1 R2 r M st wr.heap.size #[.int .u8 op, .int .u8 key, .int .i64 st] wx))
            case first =>
              go_region_with (
                go_at_call 8
                refine (unlockA (w := w) w.heap.size M R1 R2 r st wr.heap.size #[.int .u8 op, .int .u8 key, .int .i64 st] _ h1 ?_ ?_).mono ?_
                · first | exact HIV.out | exact HIV.out.drew | exact HIV.out.drew.drew | exact HIV.out.drewN _
                · exact HVB.out
                rintro e V2 ⟨rfl, hU⟩
                have HU : Hid (AfterU w w.heap.size R1 R2 r M st wr.heap.size #[.int .u8 op, .int .u8 key, .int .i64 st] V2) := hU
                clear hU)
              all_goals (go_wp2_with fail)
              all_goals go_meet
              all_goals exact HU
            case rest =>
              rename World => V2
              have HU : Hid (AfterU w w.heap.size R1 R2 r M st wr.heap.size #[.int .u8 op, .int .u8 key, .int .i64 st] V2) := hcut
              clear hcut ck4 ck5 ck6 cs2 co HIV HVB
              obtain ⟨v, clk⟩ := HU.out.look 0
              have clk : (Instr.lookup 31 (.map (some M)) (.int .i64 (r.k : Int)) true).run Yba.prog V2 = .ok (.tuple #[v, .bool false]) V2 := clk
              have cg : V2.cell? ⟨w.heap.size, 2, none⟩ = some (.map (some M)) := by obtain ⟨q, hB⟩ := HU.out.grp; exact hB.cell 2
              have ch1 : V2.cell? ⟨r.hb, 1, none⟩ = some (.int .i64 st) := HU.out.hold.cell 1
              have cs2 : V2.cell? ⟨wr.heap.size, 2, none⟩ = some (.int .i64 st) := HU.out.step.cell 2
              have ck4 := (HU.out.a4.cell r.k).trans (arr_get _ hk4)
              have ck5 := (HU.out.a5.cell r.k).trans (arr_get _ hk4)
              have ck6 := (HU.out.a6.cell r.k).trans (arr_get _ hk4)
              have fk4 := HU.out.a4.frozen r.k
              have fk5 := HU.out.a5.frozen r.k
              have fk6 := HU.out.a6.frozen r.k
              have hLs : (R1 ++ R2).length + 1 = L := by rw [← hL]; simp; omega
              have hLp : L ≤ p := by rw [← hL]; exact hRl
              have hL2 : (1 : Int) ≤ L := by omega
              have hL3 : (L : Int) ≤ 65536 := by omega
              go_wp2
              clear clk cg
              go_quiet (fail)
              go_wp2
              go_meet
              case rel => exact ⟨R1 ++ R2, some M, congrArg (Value.int .i64) (by omega), by omega, HU.out.fin.drewN _⟩
      case rest =>
        obtain ⟨R', m', rfl, hRl', HIc⟩ := hcut
        clear HIV HVB
        have gc : wc.cell? ⟨w.heap.size, 2, none⟩ = some (.map m') := by obtain ⟨q, hB⟩ := HIc.out.grp; exact hB.cell 2
        have hlen : ∀ ty, (Builtin.len_ #[31] ty #[.map m']).run Yba.prog wc = .ok (.int .i64 (R'.length : Int)) wc := fun ty => HIc.out.maps.len ty
        go_wp2
        clear hlen gc
        go_loopw [19] (fun j wj => ∃ (t : Nat), t ≤ 4 ∧ j = .int .i64 (t : Int) ∧ Hid (Inv w w.heap.size wj R' m')) (fun j _ => 4 - (intOf j).toNat)
        case atStart => exact ⟨0, Nat.zero_le _, rfl, HIc⟩
        case round =>
          clear HIc
          obtain ⟨t, ht, rfl, HJ⟩ := hrel
          by_cases hlt4 : t < 4
          · have cj : _ = some (Value.bool (has R' t)) := HJ.out.c4 hlt4
            have hlt4' : (t : Int) < 4 := by omega
            have hc := fun nq => held w.heap.size m' R' t _ (HJ.out.drewN nq).grp (HJ.out.drewN nq).maps
            have HC : Hid _ := hc
            clear hc
            generalize has R' t = bt at cj HC
            go_wp2
            go_quiet ((go_at_call 5; exact Calls.quiet_of_same (HC.out _)))
            go_wp2
            go_roundw
            case rel => exact ⟨t + 1, hlt4, rfl, HJ.out.drewN _⟩
            case measure => simp [intOf]; omega
          · obtain rfl : t = 4 := by omega
            go_wp2
            go_roundw
            case rel => exact ⟨p + 1, R', m', hlt, hRl', rfl, rfl, HJ⟩
            case measure => simp [intOf]; omega
    · go_wp2
      go_ret
      exact ⟨rfl, HI.out.below⟩
end Go.Proofs.Ybulkecyw
