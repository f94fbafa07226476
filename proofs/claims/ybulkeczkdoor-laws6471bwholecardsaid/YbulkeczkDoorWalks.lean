/-
  The walks of the three callees of LawS6471BWhole: netip.AddrFrom4, Member.Destination, zzs6471bzeroslices: each with the very world that it leaves.
-/
import Derived.Test.YbulkeczkDoorLaws
namespace Go.Proofs.YbulkeczkDoor
open Go.RowKit
attribute [local go_sem] rule_1 rule_3 rule_4 rule_31 rule_32 rule_33 rule_37 rule_38 rule_set1 rule_set3
/-- The low word that netip.AddrFrom4 makes of four bytes. -/
def lowWord (a b c d : Int) : Int := bits BinOp.or IntKind.u64 (bits BinOp.or IntKind.u64 (bits BinOp.or IntKind.u64 (bits BinOp.or IntKind.u64 281470681743360 (a * 16777216)) (b * 65536)) (c * 256)) d
set_option maxHeartbeats 400000 in
theorem from4 (a b c d : Int) (ha : 0 ≤ a ∧ a ≤ 255) (hb : 0 ≤ b ∧ b ≤ 255) (hc : 0 ≤ c ∧ c ≤ 255) (hd : 0 ≤ d ∧ d ≤ 255) (p : Option Addr) (w : World) (hz : 0 < w.heap.size) (hg : w.cell? ⟨0, 0, none⟩ = some (.pointer p)) :
    Calls Ybad.prog 5 #[.agg #[.int .u8 a, .int .u8 b, .int .u8 c, .int .u8 d]] w fun e w' => e = .returned (.agg #[.int .u64 0, .int .u64 (lowWord a b c d), .pointer p]) ∧
      w' = (w.alloc (.cells #[.int .u8 a, .int .u8 b, .int .u8 c, .int .u8 d] 22)).alloc (.cells #[.int .u64 0, .int .u64 (lowWord a b c d), .pointer p] 30) := by
  go_enter Ybad.func5, Ybad.ntmps5
  go_wp2
  exact bodyPost_ret (v := .agg #[.int .u64 0, .int .u64 (lowWord a b c d), .pointer p]) (by simp [results, Ybad.results5, go_sem, lowWord]) rfl ⟨rfl, rfl⟩
set_option maxHeartbeats 1000000 in
theorem dest_e (a1 b1 : Int) (p1 : Option Addr) (a2 b2 : Int) (p2 : Option Addr) (nt : Bool) (w : World) :
    Calls Ybad.prog 6 #[.agg #[.string { data := #[] }, .int .u64 a1, .int .u64 b1, .pointer p1, .int .u64 a2, .int .u64 b2, .pointer p2, .bool nt]] w fun e w' => e = .returned (.agg (rule { data := #[108, 111, 99, 97, 108] } true a1 b1 p1 a2 b2 p2 nt)) ∧ w' = ((w.alloc (.cells #[.string { data := #[] }, .int .u64 a1, .int .u64 b1, .pointer p1, .int .u64 a2, .int .u64 b2, .pointer p2, .bool nt] 35)).alloc (.cells (rule { data := #[108, 111, 99, 97, 108] } true a1 b1 p1 a2 b2 p2 nt) 53)).alloc (.cells (rule { data := #[108, 111, 99, 97, 108] } true a1 b1 p1 a2 b2 p2 nt) 53) := by
  go_enter Ybad.func6, Ybad.ntmps6
  go_wp2_with (first
    | (refine allocTo rfl 53 rfl zrule zrule_zero (w.heap.size + 1) ?hn ?_; (case hn => (simp; done)))
    | (refine allocTo rfl 53 rfl zrule zrule_zero (w.heap.size + 1 + 1) ?hn ?_; (case hn => (simp; done)))
    | (refine buildTo rfl 53 _ rfl (rule { data := #[] } false a1 b1 p1 a2 b2 p2 nt) ?hb ?_; case hb => kernel_rfl)
    | (refine storeTo rfl 53 _ _ rfl (w.heap.size + 1 + 1) (rule { data := #[] } false a1 b1 p1 a2 b2 p2 nt) rfl rfl 53 zrule ?h1 (rule_info ..) rfl (rule_one ..) (w2 := ((w.alloc (.cells #[.string { data := #[] }, .int .u64 a1, .int .u64 b1, .pointer p1, .int .u64 a2, .int .u64 b2, .pointer p2, .bool nt] 35)).alloc (.cells zrule 53)).alloc (.cells (rule { data := #[] } false a1 b1 p1 a2 b2 p2 nt) 53)) ?h5 ?_; (case h1 => (refine heap_last _ _ _ ?_; simp)); (case h5 => (refine setRow_last _ _ _ _ _ ?_; simp)))
    | (refine wpList_load_row rfl 53 _ rfl (w.heap.size + 1 + 1) rfl 53 (rule { data := #[108, 111, 99, 97, 108] } true a1 b1 p1 a2 b2 p2 nt) (0, 0) _ ?h1 Ybad.underlying53 rfl (rule_info ..) ?_; (case h1 => (refine heap_last _ _ _ ?_; simp)))
    | (refine storeTo rfl 53 _ _ rfl (w.heap.size + 1) (rule { data := #[108, 111, 99, 97, 108] } true a1 b1 p1 a2 b2 p2 nt) rfl rfl 53 zrule ?h1 (rule_info ..) rfl (rule_one ..) (w2 := ((w.alloc (.cells #[.string { data := #[] }, .int .u64 a1, .int .u64 b1, .pointer p1, .int .u64 a2, .int .u64 b2, .pointer p2, .bool nt] 35)).alloc (.cells (rule { data := #[108, 111, 99, 97, 108] } true a1 b1 p1 a2 b2 p2 nt) 53)).alloc (.cells (rule { data := #[108, 111, 99, 97, 108] } true a1 b1 p1 a2 b2 p2 nt) 53)) ?h5 ?_; (case h1 => (refine (heap_past _ _ _ ?_).trans (heap_last _ _ _ ?_) <;> simp)); (case h5 => (refine (setRow_past _ _ _ _ ?_).trans (congrArg (World.alloc · _) (setRow_last _ _ _ _ _ ?_)) <;> simp))))
  refine bodyPost_ret (v := .agg (rule { data := #[108, 111, 99, 97, 108] } true a1 b1 p1 a2 b2 p2 nt)) (results_cell_row (p := 2) (ty := 53) rfl _ _ (w.heap.size + 1) 53 _ (0, 0) _ rfl ?_ Ybad.underlying53 rfl (rule_info ..)) rfl ⟨rfl, rfl⟩
  refine (heap_past _ _ _ ?_).trans (heap_last _ _ _ ?_) <;> simp
set_option maxHeartbeats 1000000 in
theorem dest_n (a1 b1 : Int) (p1 : Option Addr) (a2 b2 : Int) (p2 : Option Addr) (nt : Bool) (s : ByteArray) (hs : s.toList.isEmpty = false) (w : World) :
    Calls Ybad.prog 6 #[.agg #[.string s, .int .u64 a1, .int .u64 b1, .pointer p1, .int .u64 a2, .int .u64 b2, .pointer p2, .bool nt]] w fun e w' => e = .returned (.agg (rule s false a1 b1 p1 a2 b2 p2 nt)) ∧ w' = ((w.alloc (.cells #[.string s, .int .u64 a1, .int .u64 b1, .pointer p1, .int .u64 a2, .int .u64 b2, .pointer p2, .bool nt] 35)).alloc (.cells (rule s false a1 b1 p1 a2 b2 p2 nt) 53)).alloc (.cells (rule s false a1 b1 p1 a2 b2 p2 nt) 53) := by
  go_enter Ybad.func6, Ybad.ntmps6
  go_wp2_with (first
    | (refine allocTo rfl 53 rfl zrule zrule_zero (w.heap.size + 1) ?hn ?_; (case hn => (simp; done)))
    | (refine allocTo rfl 53 rfl zrule zrule_zero (w.heap.size + 1 + 1) ?hn ?_; (case hn => (simp; done)))
    | (refine buildTo rfl 53 _ rfl (rule s false a1 b1 p1 a2 b2 p2 nt) ?hb ?_; case hb => kernel_rfl)
    | (refine storeTo rfl 53 _ _ rfl (w.heap.size + 1 + 1) (rule s false a1 b1 p1 a2 b2 p2 nt) rfl rfl 53 zrule ?h1 (rule_info ..) rfl (rule_one ..) (w2 := ((w.alloc (.cells #[.string s, .int .u64 a1, .int .u64 b1, .pointer p1, .int .u64 a2, .int .u64 b2, .pointer p2, .bool nt] 35)).alloc (.cells zrule 53)).alloc (.cells (rule s false a1 b1 p1 a2 b2 p2 nt) 53)) ?h5 ?_; (case h1 => (refine heap_last _ _ _ ?_; simp)); (case h5 => (refine setRow_last _ _ _ _ _ ?_; simp)))
    | (refine wpList_load_row rfl 53 _ rfl (w.heap.size + 1 + 1) rfl 53 (rule s false a1 b1 p1 a2 b2 p2 nt) (0, 0) _ ?h1 Ybad.underlying53 rfl (rule_info ..) ?_; (case h1 => (refine heap_last _ _ _ ?_; simp)))
    | (refine storeTo rfl 53 _ _ rfl (w.heap.size + 1) (rule s false a1 b1 p1 a2 b2 p2 nt) rfl rfl 53 zrule ?h1 (rule_info ..) rfl (rule_one ..) (w2 := ((w.alloc (.cells #[.string s, .int .u64 a1, .int .u64 b1, .pointer p1, .int .u64 a2, .int .u64 b2, .pointer p2, .bool nt] 35)).alloc (.cells (rule s false a1 b1 p1 a2 b2 p2 nt) 53)).alloc (.cells (rule s false a1 b1 p1 a2 b2 p2 nt) 53)) ?h5 ?_; (case h1 => (refine (heap_past _ _ _ ?_).trans (heap_last _ _ _ ?_) <;> simp)); (case h5 => (refine (setRow_past _ _ _ _ ?_).trans (congrArg (World.alloc · _) (setRow_last _ _ _ _ _ ?_)) <;> simp))))
  refine bodyPost_ret (v := .agg (rule s false a1 b1 p1 a2 b2 p2 nt)) (results_cell_row (p := 2) (ty := 53) rfl _ _ (w.heap.size + 1) 53 _ (0, 0) _ rfl ?_ Ybad.underlying53 rfl (rule_info ..)) rfl ⟨rfl, rfl⟩
  refine (heap_past _ _ _ ?_).trans (heap_last _ _ _ ?_) <;> simp
set_option maxHeartbeats 1000000 in
theorem zeros (o : ByteArray) (no : Bool) (a1 b1 : Int) (p1 : Option Addr) (a2 b2 : Int) (p2 : Option Addr) (nt : Bool) (w : World) :
    Calls Ybad.prog 7 #[.agg (rule o no a1 b1 p1 a2 b2 p2 nt)] w fun e w' => e = .returned (.bool true) ∧ w' = w.alloc (.cells (rule o no a1 b1 p1 a2 b2 p2 nt) 53) := by
  have k36 := fun (w : World) (a : Option Addr) (n c n' c' : Nat) => Lib.run_eql_slice_nil (P := Ybad.prog) w 36 _ a n c n' c' Ybad.underlying36
  have k41 := fun (w : World) (a : Option Addr) (n c n' c' : Nat) => Lib.run_eql_slice_nil (P := Ybad.prog) w 41 _ a n c n' c' Ybad.underlying41
  have k45 := fun (w : World) (a : Option Addr) (n c n' c' : Nat) => Lib.run_eql_slice_nil (P := Ybad.prog) w 45 _ a n c n' c' Ybad.underlying45
  have k46 := fun (w : World) (a : Option Addr) (n c n' c' : Nat) => Lib.run_eql_slice_nil (P := Ybad.prog) w 46 _ a n c n' c' Ybad.underlying46
  go_enter Ybad.func7, Ybad.ntmps7
  go_wp2
  go_ret
  exact ⟨rfl, rfl⟩
end Go.Proofs.YbulkeczkDoor
