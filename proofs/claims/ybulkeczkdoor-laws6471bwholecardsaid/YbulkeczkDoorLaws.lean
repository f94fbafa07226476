/-
  Laws of this seat's own: an operation on a whole struct by its cells, the cells a name ('rule ..', 'zrule'): no cell is looked at one by one.
-/
import Derived.Test.YbulkeczkDoorRows
import Derived.WalkKit
import Derived.WalkLawsBesides
import Derived.WalkSpells
import Derived.Laws.Rows
import Derived.Laws.Tables
import Derived.Deep.WholeRow
namespace Go.Proofs.YbulkeczkDoor
open Go.RowKit
variable {P : Program}

theorem buildTo {ops : Array Oper} {rest : List Oper} {o : Oper} {a : Act} {w : World} {Q : Exit → Act → World → Prop} (hg : o.guard = none) (t : TypeId) (parts : Array (Nat × Operand)) (ho : o.op = .build t parts)
    (cells : Array Value) (hf : P.built t (parts.map fun (i, x) => (i, a.eval x)).toList = some cells)
    (h : wpList P ops Q rest (a.put o.dst (.agg cells)) w) : wpList P ops Q (o :: rest) a w := by
  refine wpList_build hg t parts ho (by rw [hf]; rfl) ?_
  rw [hf]
  exact h

theorem allocTo {ops : Array Oper} {rest : List Oper} {o : Oper} {a : Act} {w : World} {Q : Exit → Act → World → Prop} (hg : o.guard = none) (t : TypeId) (ho : o.op = .alloc t)
    (cells : Array Value) (hz : (P.info? t).map (fun i => (i.zero, i.size)) = some (some (.agg cells), cells.size)) (n : Nat) (hn : w.heap.size = n)
    (h : wpList P ops Q rest (a.put o.dst (.pointer (some ⟨n, 0, none⟩))) (w.alloc (.cells cells t))) : wpList P ops Q (o :: rest) a w := by
  subst hn
  refine wpList_plain hg fun K hK => ?_
  unfold Oper.wp execOp
  simp only [ho, Instr.alloc, Sem.run_bind, (zero_of_info hz).1, Result.andThen_ok, newVar, newRow, run_newObj_alloc, Sem.run_pure, Value.cells]
  exact hK _ _ h

theorem storeTo {ops : Array Oper} {rest : List Oper} {o : Oper} {a : Act} {w w2 : World} {Q : Exit → Act → World → Prop} (hgd : o.guard = none) (ty : TypeId) (x y : Operand) (ho : o.op = .store ty x y)
    (g : Nat) (cells : Array Value) (hx : a.eval x = .pointer (some ⟨g, 0, none⟩)) (hy : a.eval y = .agg cells)
    (t : TypeId) (old : Array Value) (hg : w.heap[g]? = some (.cells old t (0, 0))) (hi : (P.info? ty).map (·.size) = some cells.size)
    (hold : old.size = cells.size) (h1 : cells.all (·.oneCell') = true) (h2 : w.setRow g cells = w2)
    (h : wpList P ops Q rest (a.put o.dst undef) w2) : wpList P ops Q (o :: rest) a w := by
  subst h2
  exact wpList_plain hgd fun _ hK => wp_store_row ty x y ho g cells hx hy t old hg hi hold h1 (hK _ _ h)

theorem heap_last (w : World) (o : Obj) (n : Nat) (hn : n = w.heap.size) : (w.alloc o).heap[n]? = some o := by
  subst hn; exact heap_alloc_new w o
theorem heap_past (w : World) (o : Obj) (n : Nat) (hn : n < w.heap.size) : (w.alloc o).heap[n]? = w.heap[n]? := Below.heap_alloc w o n hn
theorem setRow_last (w : World) (c c' : Array Value) (t : TypeId) (n : Nat) (hn : n = w.heap.size) : (w.alloc (.cells c t)).setRow n c' = w.alloc (.cells c' t) := by
  subst hn; exact World.setRow_alloc_new w c c' t
theorem setRow_past (w : World) (o : Obj) (c' : Array Value) (n : Nat) (hn : n < w.heap.size) : (w.alloc o).setRow n c' = (w.setRow n c').alloc o := by
  simp only [World.setRow, World.alloc]
  congr 1
  apply Array.ext_getElem?
  intro i
  rw [Array.getElem?_modify, Array.getElem?_push, Array.getElem?_push, Array.getElem?_modify]
  by_cases h : n = i
  · subst h
    simp [Nat.ne_of_lt hn]
  · by_cases h2 : i = w.heap.size <;> simp [h, h2, Nat.ne_of_lt hn]

/-- A whole struct into the block that was made last. -/
theorem storeLast {ops : Array Oper} {rest : List Oper} {o : Oper} {a : Act} {w W : World} {Q : Exit → Act → World → Prop} (hgd : o.guard = none) (ty : TypeId) (x y : Operand) (ho : o.op = .store ty x y)
    (c c' : Array Value) (n : Nat) (t : TypeId) (hW : W = w.alloc (.cells c t)) (hn : n = w.heap.size) (hx : a.eval x = .pointer (some ⟨n, 0, none⟩)) (hy : a.eval y = .agg c')
    (hi : (P.info? ty).map (·.size) = some c'.size)
    (hold : c.size = c'.size) (h1 : c'.all (·.oneCell') = true)
    (h : wpList P ops Q rest (a.put o.dst undef) (w.alloc (.cells c' t))) : wpList P ops Q (o :: rest) a W := by
  subst hW
  exact storeTo hgd ty x y ho n c' hx hy t c (heap_last _ _ _ hn) hi hold h1 (setRow_last _ _ _ _ _ hn) h
/-- A whole struct out of the block that was made last. -/
theorem loadLast {ops : Array Oper} {rest : List Oper} {o : Oper} {a : Act} {w W : World} {Q : Exit → Act → World → Prop} (hgd : o.guard = none) (ty : TypeId) (x : Operand) (ho : o.op = .load ty x)
    (c : Array Value) (n : Nat) (t : TypeId) (hW : W = w.alloc (.cells c t)) (hn : n = w.heap.size) (hx : a.eval x = .pointer (some ⟨n, 0, none⟩))
    (d : TypeDesc) (hu : P.underlying ty = some d) (hd : (match d with | .struct _ | .array _ _ => true | _ => false) = true) (hi : (P.info? ty).map (·.size) = some c.size)
    (h : wpList P ops Q rest (a.put o.dst (.agg c)) W) : wpList P ops Q (o :: rest) a W := by
  subst hW
  exact wpList_load_row hgd ty x ho n hx t c (0, 0) d (heap_last _ _ _ hn) hu hd hi h

/-- A pointer against itself, of the type of netip's handle (26). -/
theorem info26 : ∃ e j, Ybad.prog.underlying 26 = some (.pointer e) ∧ Ybad.prog.info? e = some j := ⟨Ybad.prog.pointee 26, (Ybad.prog.info? (Ybad.prog.pointee 26)).getD default, by kernel_rfl, by kernel_rfl⟩
theorem eqPtr26 (w : World) (d : Nat) (p : Option Addr) : (Op.equalIn (d + 1) 26 (.pointer p) (.pointer p)).run Ybad.prog w = .ok true w := by
  obtain ⟨e, j, he, hj⟩ := info26
  cases p <;> simp [Op.equalIn, run_underlying he, sizeOf, typeInfo, hj, sameAddr]

/-- The cells of a rules.Rule with Out, NotOut and DstRange set and all else zero. -/
def rule (o : ByteArray) (no : Bool) (a1 b1 : Int) (p1 : Option Addr) (a2 b2 : Int) (p2 : Option Addr) (nt : Bool) : Array Value :=
  #[.string { data := #[] }, .string o, .bool false, .bool no, .slice none 0 0, .int .u64 0, .int .u64 0,
    .pointer none, .int .u64 0, .int .u64 0, .bool false, .int .u64 0, .int .u64 0, .pointer none, .int .u64 0, .int .u64 0,
    .bool false, .int .u64 0, .int .u64 0, .pointer none, .int .u64 0, .int .u64 0, .pointer none, .bool false,
    .int .u64 a1, .int .u64 b1, .pointer p1, .int .u64 a2, .int .u64 b2, .pointer p2, .bool nt, .slice none 0 0,
    .slice none 0 0, .slice none 0 0, .int .u8 0, .int .u8 0, .pointer none, .slice none 0 0, .slice none 0 0, .pointer none, .pointer none,
    .bool false, .int .u8 0, .pointer none, .int .u8 0, .string { data := #[] }, .string { data := #[] }]
def zrule : Array Value := rule { data := #[] } false 0 0 none 0 0 none false
theorem zrule_zero : (Ybad.prog.info? 53).map (fun i => (i.zero, i.size)) = some (some (.agg zrule), zrule.size) := by kernel_rfl
theorem rule_size (o : ByteArray) (no : Bool) (a1 b1 : Int) (p1 : Option Addr) (a2 b2 : Int) (p2 : Option Addr) (nt : Bool) : (rule o no a1 b1 p1 a2 b2 p2 nt).size = 47 := rfl
theorem rule_one (o : ByteArray) (no : Bool) (a1 b1 : Int) (p1 : Option Addr) (a2 b2 : Int) (p2 : Option Addr) (nt : Bool) : (rule o no a1 b1 p1 a2 b2 p2 nt).all (·.oneCell') = true := by kernel_rfl
theorem rule_info (o : ByteArray) (no : Bool) (a1 b1 : Int) (p1 : Option Addr) (a2 b2 : Int) (p2 : Option Addr) (nt : Bool) : (Ybad.prog.info? 53).map (·.size) = some (rule o no a1 b1 p1 a2 b2 p2 nt).size := by kernel_rfl
theorem rule_built (o : ByteArray) (a1 b1 : Int) (p1 : Option Addr) (a2 b2 : Int) (p2 : Option Addr) (nt : Bool) :
    Ybad.prog.built 53 [(1, .string o), (8, .agg #[.int .u64 a1, .int .u64 b1, .pointer p1, .int .u64 a2, .int .u64 b2, .pointer p2, .bool nt])] = some (rule o false a1 b1 p1 a2 b2 p2 nt) := by kernel_rfl
section
variable (o : ByteArray) (no : Bool) (a1 b1 : Int) (p1 : Option Addr) (a2 b2 : Int) (p2 : Option Addr) (nt : Bool)
theorem rule_0 : (rule o no a1 b1 p1 a2 b2 p2 nt)[0]? = some (.string { data := #[] }) := rfl
theorem rule_1 : (rule o no a1 b1 p1 a2 b2 p2 nt)[1]? = some (.string o) := rfl
theorem rule_2 : (rule o no a1 b1 p1 a2 b2 p2 nt)[2]? = some (.bool false) := rfl
theorem rule_3 : (rule o no a1 b1 p1 a2 b2 p2 nt)[3]? = some (.bool no) := rfl
theorem rule_4 : (rule o no a1 b1 p1 a2 b2 p2 nt)[4]? = some (.slice none 0 0) := rfl
theorem rule_5 : (rule o no a1 b1 p1 a2 b2 p2 nt)[5]? = some (.int .u64 0) := rfl
theorem rule_6 : (rule o no a1 b1 p1 a2 b2 p2 nt)[6]? = some (.int .u64 0) := rfl
theorem rule_7 : (rule o no a1 b1 p1 a2 b2 p2 nt)[7]? = some (.pointer none) := rfl
theorem rule_8 : (rule o no a1 b1 p1 a2 b2 p2 nt)[8]? = some (.int .u64 0) := rfl
theorem rule_9 : (rule o no a1 b1 p1 a2 b2 p2 nt)[9]? = some (.int .u64 0) := rfl
theorem rule_10 : (rule o no a1 b1 p1 a2 b2 p2 nt)[10]? = some (.bool false) := rfl
theorem rule_11 : (rule o no a1 b1 p1 a2 b2 p2 nt)[11]? = some (.int .u64 0) := rfl
theorem rule_12 : (rule o no a1 b1 p1 a2 b2 p2 nt)[12]? = some (.int .u64 0) := rfl
theorem rule_13 : (rule o no a1 b1 p1 a2 b2 p2 nt)[13]? = some (.pointer none) := rfl
theorem rule_14 : (rule o no a1 b1 p1 a2 b2 p2 nt)[14]? = some (.int .u64 0) := rfl
theorem rule_15 : (rule o no a1 b1 p1 a2 b2 p2 nt)[15]? = some (.int .u64 0) := rfl
theorem rule_16 : (rule o no a1 b1 p1 a2 b2 p2 nt)[16]? = some (.bool false) := rfl
theorem rule_17 : (rule o no a1 b1 p1 a2 b2 p2 nt)[17]? = some (.int .u64 0) := rfl
theorem rule_18 : (rule o no a1 b1 p1 a2 b2 p2 nt)[18]? = some (.int .u64 0) := rfl
theorem rule_19 : (rule o no a1 b1 p1 a2 b2 p2 nt)[19]? = some (.pointer none) := rfl
theorem rule_20 : (rule o no a1 b1 p1 a2 b2 p2 nt)[20]? = some (.int .u64 0) := rfl
theorem rule_21 : (rule o no a1 b1 p1 a2 b2 p2 nt)[21]? = some (.int .u64 0) := rfl
theorem rule_22 : (rule o no a1 b1 p1 a2 b2 p2 nt)[22]? = some (.pointer none) := rfl
theorem rule_23 : (rule o no a1 b1 p1 a2 b2 p2 nt)[23]? = some (.bool false) := rfl
theorem rule_24 : (rule o no a1 b1 p1 a2 b2 p2 nt)[24]? = some (.int .u64 a1) := rfl
theorem rule_25 : (rule o no a1 b1 p1 a2 b2 p2 nt)[25]? = some (.int .u64 b1) := rfl
theorem rule_26 : (rule o no a1 b1 p1 a2 b2 p2 nt)[26]? = some (.pointer p1) := rfl
theorem rule_27 : (rule o no a1 b1 p1 a2 b2 p2 nt)[27]? = some (.int .u64 a2) := rfl
theorem rule_28 : (rule o no a1 b1 p1 a2 b2 p2 nt)[28]? = some (.int .u64 b2) := rfl
theorem rule_29 : (rule o no a1 b1 p1 a2 b2 p2 nt)[29]? = some (.pointer p2) := rfl
theorem rule_30 : (rule o no a1 b1 p1 a2 b2 p2 nt)[30]? = some (.bool nt) := rfl
theorem rule_31 : (rule o no a1 b1 p1 a2 b2 p2 nt)[31]? = some (.slice none 0 0) := rfl
theorem rule_32 : (rule o no a1 b1 p1 a2 b2 p2 nt)[32]? = some (.slice none 0 0) := rfl
theorem rule_33 : (rule o no a1 b1 p1 a2 b2 p2 nt)[33]? = some (.slice none 0 0) := rfl
theorem rule_34 : (rule o no a1 b1 p1 a2 b2 p2 nt)[34]? = some (.int .u8 0) := rfl
theorem rule_35 : (rule o no a1 b1 p1 a2 b2 p2 nt)[35]? = some (.int .u8 0) := rfl
theorem rule_36 : (rule o no a1 b1 p1 a2 b2 p2 nt)[36]? = some (.pointer none) := rfl
theorem rule_37 : (rule o no a1 b1 p1 a2 b2 p2 nt)[37]? = some (.slice none 0 0) := rfl
theorem rule_38 : (rule o no a1 b1 p1 a2 b2 p2 nt)[38]? = some (.slice none 0 0) := rfl
theorem rule_39 : (rule o no a1 b1 p1 a2 b2 p2 nt)[39]? = some (.pointer none) := rfl
theorem rule_40 : (rule o no a1 b1 p1 a2 b2 p2 nt)[40]? = some (.pointer none) := rfl
theorem rule_41 : (rule o no a1 b1 p1 a2 b2 p2 nt)[41]? = some (.bool false) := rfl
theorem rule_42 : (rule o no a1 b1 p1 a2 b2 p2 nt)[42]? = some (.int .u8 0) := rfl
theorem rule_43 : (rule o no a1 b1 p1 a2 b2 p2 nt)[43]? = some (.pointer none) := rfl
theorem rule_44 : (rule o no a1 b1 p1 a2 b2 p2 nt)[44]? = some (.int .u8 0) := rfl
theorem rule_45 : (rule o no a1 b1 p1 a2 b2 p2 nt)[45]? = some (.string { data := #[] }) := rfl
theorem rule_46 : (rule o no a1 b1 p1 a2 b2 p2 nt)[46]? = some (.string { data := #[] }) := rfl
theorem rule_set1 (x : ByteArray) : (rule o no a1 b1 p1 a2 b2 p2 nt).setIfInBounds 1 (.string x) = rule x no a1 b1 p1 a2 b2 p2 nt := rfl
theorem rule_set3 (x : Bool) : (rule o no a1 b1 p1 a2 b2 p2 nt).setIfInBounds 3 (.bool x) = rule o x a1 b1 p1 a2 b2 p2 nt := rfl
end
end Go.Proofs.YbulkeczkDoor
