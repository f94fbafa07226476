/-
  LawS6470BWhole: the comparisons that the law makes (functions and channels against nil; pointers to Holds), and the steps' row.
-/
import Derived.Test.YbulkecywInv
namespace Go.Proofs.Ybulkecyw
open Go.RowKit
theorem in_nilFunc (w : World) (d : Nat) : (Op.equalIn (d + 1) 37 .nilFunc .nilFunc).run Yba.prog w = .ok true w := by simp [Op.equalIn, run_underlying Yba.underlying37]
theorem in_func_nil (w : World) (d : Nat) (f : Fn) (a c : Array Value) : (Op.equalIn (d + 1) 37 (.func f a c) .nilFunc).run Yba.prog w = .ok false w := by simp [Op.equalIn, run_underlying Yba.underlying37]
theorem in_chan_nil (w : World) (d : Nat) (c : Nat) : (Op.equalIn (d + 1) 44 (.chan (some c)) (.chan none)).run Yba.prog w = .ok false w := by simp [Op.equalIn, run_underlying Yba.underlying44]
theorem in_ptr_same (w : World) (d b : Nat) : (Op.equalIn (d + 1) 35 (ptr b) (ptr b)).run Yba.prog w = .ok true w := by simp [Op.equalIn, run_underlying Yba.underlying35, sameAddr]
theorem in_ptr_other (w : World) (d a b : Nat) {ta tb : TypeId} {ca cb : Array Value} (h : a ≠ b) (ha : Blk w a ta ca) (hb : Blk w b tb cb) : (Op.equalIn (d + 1) 35 (ptr a) (ptr b)).run Yba.prog w = .ok false w := by
  have hs : (sameAddr ⟨a, 0, none⟩ ⟨b, 0, none⟩).run Yba.prog w = .ok false w := by
    unfold Blk at ha hb
    simp [sameAddr, h, World.frozen?, ha, hb, noView, viewAt, World.shape?, mayBeOne, stringish]
  simp [Op.equalIn, run_underlying Yba.underlying35, hs]
theorem neq_nilFunc (w : World) : (binOp .neq 37 .nilFunc .nilFunc).run Yba.prog w = .ok (.bool false) w := by
  have e : (Op.equal 37 .nilFunc .nilFunc).run Yba.prog w = .ok true w := in_nilFunc w 9999
  simp [binOp, e]
theorem eql_func_nil (w : World) (f : Fn) (a c : Array Value) : (binOp .eql 37 (.func f a c) .nilFunc).run Yba.prog w = .ok (.bool false) w := by
  have e : (Op.equal 37 (.func f a c) .nilFunc).run Yba.prog w = .ok false w := in_func_nil w 9999 f a c
  simp [binOp, e]
theorem eql_chan_nil (w : World) (c : Nat) : (binOp .eql 44 (.chan (some c)) (.chan none)).run Yba.prog w = .ok (.bool false) w := by
  have e : (Op.equal 44 (.chan (some c)) (.chan none)).run Yba.prog w = .ok false w := in_chan_nil w 9999 c
  simp [binOp, e]
theorem neq_ptr_same (w : World) (b : Nat) : (binOp .neq 35 (ptr b) (ptr b)).run Yba.prog w = .ok (.bool false) w := by
  have e : (Op.equal 35 (ptr b) (ptr b)).run Yba.prog w = .ok true w := in_ptr_same w 9999 b
  simp [binOp, e]
theorem eql_ptr_other (w : World) (a b : Nat) {ta tb : TypeId} {ca cb : Array Value} (h : a ≠ b) (ha : Blk w a ta ca) (hb : Blk w b tb cb) : (binOp .eql 35 (ptr a) (ptr b)).run Yba.prog w = .ok (.bool false) w := by
  have e : (Op.equal 35 (ptr a) (ptr b)).run Yba.prog w = .ok false w := in_ptr_other w 9999 a b h ha hb
  simp [binOp, e]
/-- The row of the law's steps: three cells an element. -/
def Steps (w : World) (b off n : Nat) : Prop := ∀ i, i < n → ∃ op key st : Int, (0 ≤ op ∧ op ≤ 255) ∧ (0 ≤ key ∧ key ≤ 255) ∧
  w.cell? ⟨b, off + i * 3, none⟩ = some (.int .u8 op) ∧ w.cell? ⟨b, off + i * 3 + 1, none⟩ = some (.int .u8 key) ∧ w.cell? ⟨b, off + i * 3 + 2, none⟩ = some (.int .i64 st)
theorem inv0 (w : World) : Inv w w.heap.size ((((w.alloc (.cells #[.int .i32 0, .int .u32 0, .map none] 33)).alloc (.cells #[.bool false, .bool false, .bool false, .bool false] 34)).alloc (.cells #[.pointer none, .pointer none, .pointer none, .pointer none] 36)).alloc (.cells #[.nilFunc, .nilFunc, .nilFunc, .nilFunc] 38)) [] none where
  grp := ⟨0, (((blk_last _ _ _ _ rfl).alloc _).alloc _).alloc _⟩
  maps := .inl ⟨rfl, rfl⟩
  mnew := fun M h => by cases h
  recs := fun r h => by cases h
  keys := fun r h => by cases h
  rnew := fun r h => by cases h
  kdis := List.Pairwise.nil
  hdis := List.Pairwise.nil
  cdis := List.Pairwise.nil
  a4 := ((blk_last _ _ _ _ (by simp)).alloc _).alloc _
  a5 := (blk_last _ _ _ _ (by simp)).alloc _
  a6 := blk_last _ _ _ _ (by simp)
  below := ((((Below.refl _ _).alloc (Nat.le_refl _) _).alloc (by simp) _).alloc (by simp; omega) _).alloc (by simp; omega) _
theorem Inv.alloc {w wr : World} {n0 : Nat} {R : List Rec} {m : Option Nat} (h : Inv w n0 wr R m) (o : Obj) : Inv w n0 (wr.alloc o) R m := h.ext ((Keeps.refl _ _ _).alloc (Nat.le_refl _) o)
theorem Inv.drewN {w wr : World} {n0 : Nat} {R : List Rec} {m : Option Nat} (h : Inv w n0 wr R m) (q : Nat) : Inv w n0 (wr.drewN q) R m := h.ext ((Keeps.refl _ _ _).drewN q)
theorem Inv.c4 {w wr : World} {n0 : Nat} {R : List Rec} {m : Option Nat} (h : Inv w n0 wr R m) {k : Nat} (hk : k < 4) : wr.cell? ⟨n0 + 1, k, none⟩ = some (.bool (has R k)) := (h.a4.cell k).trans (arr_get _ hk)
theorem Inv.c5 {w wr : World} {n0 : Nat} {R : List Rec} {m : Option Nat} (h : Inv w n0 wr R m) {k : Nat} (hk : k < 4) : wr.cell? ⟨n0 + 1 + 1, k, none⟩ = some (hp R k) := (h.a5.cell k).trans (arr_get _ hk)
theorem Inv.c6 {w wr : World} {n0 : Nat} {R : List Rec} {m : Option Nat} (h : Inv w n0 wr R m) {k : Nat} (hk : k < 4) : wr.cell? ⟨n0 + 1 + 1 + 1, k, none⟩ = some (uf R k) := (h.a6.cell k).trans (arr_get _ hk)
end Go.Proofs.Ybulkecyw
