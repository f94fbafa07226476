/-
  LawS6470BWhole: the plain part and the small laws: the map of holds as a list of records; what a block holds; what a step keeps.
-/
import Derived.Test.YbulkecywRows
import Derived.Test.YbulkecywLocks
import Derived.WalkKit
import Derived.WalkLawsBesides
import Derived.WalkSpells
import Derived.RangeFuncRecord
import Derived.Conc.MuLone
import Derived.Laws.EntriesVeiled
namespace Go.Proofs.Ybulkecyw
open Go.RowKit

/-- One holding of a key: the key, the blocks of the Hold, of its channel, and of the three variables that the unlock function captures. -/
structure Rec where
  k : Nat
  hb : Nat
  ch : Nat
  gb : Nat
  kb : Nat
  xb : Nat

/-- A pointer to the head of block b. -/
abbrev ptr (b : Nat) : Value := .pointer (some ⟨b, 0, none⟩)
/-- Block b holds just these cells, and they may be written. -/
def Blk (w : World) (b : Nat) (t : TypeId) (cs : Array Value) : Prop := w.heap[b]? = some (.cells cs t (0, 0))
/-- The map in block M holds R's keys with pointers to R's Holds, in R's order. -/
def MapAt (w : World) (M : Nat) (R : List Rec) : Prop := ∃ (es : Array MapEntry) (clock : Nat), w.heap[M]? = some (.map es clock) ∧ es.toList.map (fun e => (e.key, e.val)) = R.map fun r => (Value.int .i64 (r.k : Int), ptr r.hb)

def look (k : Nat) : List Rec → Nat → Option (Nat × Value)
  | [], _ => none
  | r :: R, i => if r.k = k then some (i, ptr r.hb) else look k R (i + 1)
theorem findNow_eq (k : Nat) : ∀ (es : List MapEntry) (R : List Rec) (i : Nat), es.map (fun e => (e.key, e.val)) = R.map (fun r => (Value.int .i64 (r.k : Int), ptr r.hb)) →
    Instr.findNow (.int .i64) (.int .i64 (k : Int)) es i = some (look k R i)
  | [], [], i, _ => rfl
  | [], _ :: _, i, h => by simp at h
  | _ :: _, [], i, h => by simp at h
  | e :: es, r :: R, i, h => by
    simp only [List.map_cons, List.cons.injEq, Prod.mk.injEq] at h
    obtain ⟨⟨h1, h2⟩, h3⟩ := h
    simp only [Instr.findNow, h1, Instr.sameNow, if_true, look]
    by_cases hk : r.k = k
    · simp [hk, h2]
    · have : ((k : Int) == (r.k : Int)) = false := by simp; omega
      simp only [this, if_neg hk]
      exact findNow_eq k es R (i + 1) h3
theorem look_none {k : Nat} : ∀ {R : List Rec} {i : Nat}, (∀ r ∈ R, r.k ≠ k) → look k R i = none
  | [], _, _ => rfl
  | r :: R, i, h => by
    rw [look, if_neg (h r (List.mem_cons_self ..))]
    exact look_none fun r' hr' => h r' (List.mem_cons_of_mem _ hr')
theorem look_some {k : Nat} {r : Rec} {R2 : List Rec} (hr : r.k = k) : ∀ {R1 : List Rec} {i : Nat}, (∀ r' ∈ R1, r'.k ≠ k) → look k (R1 ++ r :: R2) i = some (i + R1.length, ptr r.hb)
  | [], i, _ => by simp [look, hr]
  | r' :: R1, i, h => by
    rw [List.cons_append, look, if_neg (h r' (List.mem_cons_self ..)), look_some hr fun x hx => h x (List.mem_cons_of_mem _ hx)]
    simp; omega

theorem run_checkKey (w : World) (e : Bool) (k : Int) : (Instr.checkKey e 10000 3 (.int .i64 k)).run Yba.prog w = .ok () w := by
  show (Instr.checkKey e (9999 + 1) 3 (.int .i64 k)).run Yba.prog w = .ok () w
  unfold Instr.checkKey
  simp only [Sem.run_bind, run_underlying Yba.underlying3, Result.andThen]
  rfl
theorem getMap {w : World} {M : Nat} {es : Array MapEntry} {clock : Nat} (h : w.heap[M]? = some (.map es clock)) : (getObj M).run Yba.prog w = .ok (.map es clock) w := by
  simp [getObj, Sem.run, h]
theorem setMap {w : World} {M : Nat} {es : Array MapEntry} {clock : Nat} (o : Obj) (h : w.heap[M]? = some (.map es clock)) : (setObj M o).run Yba.prog w = .ok () (w.putObj M o) := by
  simp [setObj, Sem.run, h, World.putObj]
theorem run_findKey (w : World) (k : Nat) (es : Array MapEntry) (R : List Rec) (h : es.toList.map (fun e => (e.key, e.val)) = R.map (fun r => (Value.int .i64 (r.k : Int), ptr r.hb))) :
    (Instr.findKey 3 (.int .i64 (k : Int)) es.toList).run Yba.prog w = .ok (look k R 0) w := by
  simp [Instr.findKey, run_underlying Yba.underlying3, findNow_eq k es.toList R 0 h]
theorem run_lookup_some (w : World) (M k : Nat) (R1 R2 : List Rec) (r : Rec) (hr : r.k = k) (h1 : ∀ r' ∈ R1, r'.k ≠ k) (hM : MapAt w M (R1 ++ r :: R2)) :
    (Instr.lookup 31 (.map (some M)) (.int .i64 (k : Int)) true).run Yba.prog w = .ok (.tuple #[ptr r.hb, .bool true]) w := by
  obtain ⟨es, clock, hh, he⟩ := hM
  simp [Instr.lookup, run_underlying Yba.underlying31, getMap hh, run_checkKey, run_findKey w k es _ he, look_some hr h1]
theorem run_lookup_none (w : World) (M k : Nat) (R : List Rec) (h1 : ∀ r' ∈ R, r'.k ≠ k) (hM : MapAt w M R) :
    (Instr.lookup 31 (.map (some M)) (.int .i64 (k : Int)) true).run Yba.prog w = .ok (.tuple #[.pointer none, .bool false]) w := by
  obtain ⟨es, clock, hh, he⟩ := hM
  simp [Instr.lookup, run_underlying Yba.underlying31, getMap hh, run_checkKey, run_findKey w k es _ he, look_none h1]
theorem run_lookup_nil (w : World) (k : Nat) :
    (Instr.lookup 31 (.map none) (.int .i64 (k : Int)) true).run Yba.prog w = .ok (.tuple #[.pointer none, .bool false]) w := by
  have := run_findKey w k #[] [] rfl
  simp at this
  simp [Instr.lookup, run_underlying Yba.underlying31, run_checkKey, this, look]

theorem run_update_new (w : World) (M k hb : Nat) (R : List Rec) (r : Rec) (hk : r.k = k) (hh : r.hb = hb) (h1 : ∀ r' ∈ R, r'.k ≠ k) (hM : MapAt w M R) :
    ∃ o, (Instr.mapUpdate 31 (.map (some M)) (.int .i64 (k : Int)) (ptr hb)).run Yba.prog w = .ok () (w.putObj M o) ∧ MapAt (w.putObj M o) M (R ++ [r]) := by
  obtain ⟨es, clock, hm, he⟩ := hM
  refine ⟨_, by simp [Instr.mapUpdate, run_underlying Yba.underlying31, getMap hm, run_checkKey, run_findKey w k es _ he, look_none h1, setMap _ hm]; rfl, ?_⟩
  refine ⟨_, _, World.putObj_heap_same (Array.getElem?_eq_some_iff.1 hm).1, ?_⟩
  simp [he, hk, hh]
theorem run_delete (w : World) (M k : Nat) (R1 R2 : List Rec) (r : Rec) (hr : r.k = k) (h1 : ∀ r' ∈ R1, r'.k ≠ k) (hM : MapAt w M (R1 ++ r :: R2)) :
    ∃ o, (Builtin.delete_ #[31, 3] 0 #[.map (some M), .int .i64 (k : Int)]).run Yba.prog w = .ok (.tuple #[]) (w.putObj M o) ∧ MapAt (w.putObj M o) M (R1 ++ R2) := by
  obtain ⟨es, clock, hm, he⟩ := hM
  refine ⟨.map (es.eraseIdxIfInBounds R1.length) clock, by simp [Builtin.delete_, run_underlying Yba.underlying31, getMap hm, run_checkKey, run_findKey w k es _ he, look_some hr h1, setMap _ hm], ?_⟩
  refine ⟨_, _, World.putObj_heap_same (Array.getElem?_eq_some_iff.1 hm).1, ?_⟩
  have hlen : es.toList.length = (R1 ++ r :: R2).length := by have := congrArg List.length he; simpa using this
  have : (es.eraseIdxIfInBounds R1.length).toList = es.toList.eraseIdx R1.length := by
    rw [Array.eraseIdxIfInBounds]
    split
    · simp
    · rename_i hn
      simp at hlen
      omega
  rw [this, List.eraseIdx_eq_take_drop_succ, List.map_append, List.map_take, List.map_drop, he]
  simp [List.drop_append]
theorem run_len (w : World) (ty : TypeId) (M : Nat) (R : List Rec) (hM : MapAt w M R) : (Builtin.len_ #[31] ty #[.map (some M)]).run Yba.prog w = .ok (.int .i64 (R.length : Int)) w := by
  obtain ⟨es, clock, hm, he⟩ := hM
  have hlen : es.size = R.length := by have := congrArg List.length he; simpa using this
  simp [Builtin.len_, run_underlying Yba.underlying31, getMap hm, goInt, hlen]
theorem run_len_nil (w : World) (ty : TypeId) : (Builtin.len_ #[31] ty #[.map none]).run Yba.prog w = .ok (.int .i64 0) w := by
  simp [Builtin.len_, run_underlying Yba.underlying31, goInt]
theorem close_open (ty : TypeId) (c : Nat) : ∃ K : Obj → Sem Value, Builtin.close_ #[44] ty #[.chan (some c)] = (getObj c >>= K) ∧ K (.chan 0 #[] false 0 0 false) = (setObj c (.chan 0 #[] true 0 0 false) >>= fun _ => pure (.tuple #[])) := ⟨_, rfl, rfl⟩
theorem run_close (w : World) (ty : TypeId) (c : Nat) (h : w.heap[c]? = some (.chan 0 #[] false 0 0 false)) :
    (Builtin.close_ #[44] ty #[.chan (some c)]).run Yba.prog w = .ok (.tuple #[]) (w.putObj c (.chan 0 #[] true 0 0 false)) := by
  have g : (getObj c).run Yba.prog w = .ok (.chan 0 #[] false 0 0 false) w := by simp [getObj, Sem.run, h]
  have t : (setObj c (.chan 0 #[] true 0 0 false)).run Yba.prog w = .ok () (w.putObj c (.chan 0 #[] true 0 0 false)) := by simp [setObj, Sem.run, h, World.putObj]
  obtain ⟨K, e1, e2⟩ := close_open ty c
  rw [e1]
  simp [g, e2, t]

/-! ### What a step keeps -/
/-- Below block number B all blocks are as they were, but for those in X; the streams are as they were; no block has gone. -/
structure Keeps (B : Nat) (X : List Nat) (w w' : World) : Prop where
  os : w'.os = w.os
  tape : w'.tape = w.tape
  output : w'.output = w.output
  size : w.heap.size ≤ w'.heap.size
  block : ∀ i, i < B → i ∉ X → w'.heap[i]? = w.heap[i]?
theorem Keeps.refl (B : Nat) (X : List Nat) (w : World) : Keeps B X w w := ⟨rfl, rfl, rfl, Nat.le_refl _, fun _ _ _ => rfl⟩
theorem Keeps.trans {B : Nat} {X : List Nat} {a b c : World} (h : Keeps B X a b) (k : Keeps B X b c) : Keeps B X a c :=
  ⟨k.os.trans h.os, k.tape.trans h.tape, k.output.trans h.output, Nat.le_trans h.size k.size, fun i hi hx => (k.block i hi hx).trans (h.block i hi hx)⟩
theorem Keeps.mono {B B' : Nat} {X X' : List Nat} {a b : World} (h : Keeps B X a b) (hB : B' ≤ B) (hX : ∀ x ∈ X, x < B' → x ∈ X') : Keeps B' X' a b :=
  ⟨h.os, h.tape, h.output, h.size, fun i hi hx => h.block i (by omega) fun hm => hx (hX i hm hi)⟩
theorem Keeps.alloc {B : Nat} {X : List Nat} {a w : World} (h : Keeps B X a w) (hB : B ≤ w.heap.size) (o : Obj) : Keeps B X a (w.alloc o) :=
  h.trans ⟨rfl, rfl, rfl, by simp, fun i hi _ => Below.heap_alloc _ _ _ (by omega)⟩
theorem Keeps.setCell {B : Nat} {X : List Nat} {a w : World} (h : Keeps B X a w) {p : Addr} (hp : p.block ∈ X ∨ B ≤ p.block) (v : Value) : Keeps B X a (w.setCell p v) :=
  h.trans ⟨rfl, rfl, rfl, by simp [World.setCell], fun i hi hx => Below.heap_setCell _ _ _ _ (fun e => by subst e; rcases hp with h1 | h1; exact hx h1; omega)⟩
theorem Keeps.putObj {B : Nat} {X : List Nat} {a w : World} (h : Keeps B X a w) {r : Nat} (hp : r ∈ X ∨ B ≤ r) (o : Obj) : Keeps B X a (w.putObj r o) :=
  h.trans ⟨rfl, rfl, rfl, by simp, fun i hi hx => World.putObj_heap_other (fun e => by subst e; rcases hp with h1 | h1; exact hx h1; omega)⟩
theorem Keeps.drewN {B : Nat} {X : List Nat} {a w : World} (h : Keeps B X a w) (q : Nat) : Keeps B X a (w.drewN q) :=
  h.trans ⟨rfl, rfl, rfl, Nat.le_refl _, fun _ _ _ => rfl⟩
theorem Keeps.below {B : Nat} {X : List Nat} {a w : World} (h : Keeps B X a w) {B' : Nat} (hB : B' ≤ B) (hX : ∀ x ∈ X, B' ≤ x) : Below B' a w :=
  ⟨h.os, h.tape, h.output, h.size, fun i hi => h.block i (by omega) fun hm => by have := hX i hm; omega⟩
theorem Blk.lt {w : World} {b : Nat} {t : TypeId} {cs : Array Value} (h : Blk w b t cs) : b < w.heap.size := (Array.getElem?_eq_some_iff.1 h).1
theorem Blk.cell {w : World} {b : Nat} {t : TypeId} {cs : Array Value} (h : Blk w b t cs) (i : Nat) : w.cell? ⟨b, i, none⟩ = cs[i]? := cell_of_row w b i cs t (0, 0) h
theorem Blk.frozen {w : World} {b : Nat} {t : TypeId} {cs : Array Value} (h : Blk w b t cs) (i : Nat) : w.frozen? ⟨b, i, none⟩ = false := frozen_of_row w b i cs t h
theorem Blk.keeps {w w' : World} {b : Nat} {t : TypeId} {cs : Array Value} (h : Blk w b t cs) {B : Nat} {X : List Nat} (k : Keeps B X w w') (hB : b < B) (hX : b ∉ X) : Blk w' b t cs := (k.block b hB hX).trans h
theorem Blk.alloc {w : World} {b : Nat} {t : TypeId} {cs : Array Value} (h : Blk w b t cs) (o : Obj) : Blk (w.alloc o) b t cs := (Below.heap_alloc _ _ _ h.lt).trans h
theorem Blk.set {w : World} {b : Nat} {t : TypeId} {cs : Array Value} (h : Blk w b t cs) (i : Nat) (v : Value) : Blk (w.setCell ⟨b, i, none⟩ v) b t (cs.setIfInBounds i v) := heap_setCell_same w b i cs t v h
theorem Blk.setOther {w : World} {b : Nat} {t : TypeId} {cs : Array Value} (h : Blk w b t cs) {p : Addr} (hp : b ≠ p.block) (v : Value) : Blk (w.setCell p v) b t cs := (Below.heap_setCell _ _ _ _ hp).trans h
theorem Blk.putOther {w : World} {b : Nat} {t : TypeId} {cs : Array Value} (h : Blk w b t cs) {r : Nat} (hr : b ≠ r) (o : Obj) : Blk (w.putObj r o) b t cs := (World.putObj_heap_other hr).trans h
theorem MapAt.lt {w : World} {M : Nat} {R : List Rec} (h : MapAt w M R) : M < w.heap.size := by obtain ⟨es, c, hm, _⟩ := h; exact (Array.getElem?_eq_some_iff.1 hm).1
theorem MapAt.same {w w' : World} {M : Nat} {R : List Rec} (h : MapAt w M R) (hs : w'.heap[M]? = w.heap[M]?) : MapAt w' M R := by obtain ⟨es, c, hm, he⟩ := h; exact ⟨es, c, hs.trans hm, he⟩
theorem MapAt.ne_blk {w : World} {M b : Nat} {R : List Rec} {t : TypeId} {cs : Array Value} (h : MapAt w M R) (hb : Blk w b t cs) : b ≠ M := by
  obtain ⟨es, c, hm, _⟩ := h; intro e; subst e; rw [Blk, hm] at hb; cases hb
theorem set_back (cs : Array Value) (i : Nat) (v v0 : Value) (h0 : cs[i]? = some v0) : (cs.setIfInBounds i v).setIfInBounds i v0 = cs := by
  apply Array.ext_getElem?
  intro j
  by_cases e : i = j
  · subst e
    have hi : i < cs.size := (Array.getElem?_eq_some_iff.1 h0).1
    rw [Array.getElem?_setIfInBounds_self_of_lt (by simpa using hi), h0]
  · rw [Array.getElem?_setIfInBounds_ne e, Array.getElem?_setIfInBounds_ne e]
/-- A cell that is set away and back: the world is as it was. -/
theorem setCell_back {w : World} {b i : Nat} {t : TypeId} {cs : Array Value} (h : Blk w b t cs) (v v0 : Value) (h0 : cs[i]? = some v0) : (w.setCell ⟨b, i, none⟩ v).setCell ⟨b, i, none⟩ v0 = w := by
  have key : ((w.setCell ⟨b, i, none⟩ v).setCell ⟨b, i, none⟩ v0).heap = w.heap := by
    apply Array.ext_getElem?
    intro j
    by_cases e : j = b
    · subst e
      have h2 := (h.set i v).set i v0
      rw [set_back cs i v v0 h0] at h2
      exact h2.trans h.symm
    · rw [Below.heap_setCell _ _ _ _ e, Below.heap_setCell _ _ _ _ e]
  have : (w.setCell ⟨b, i, none⟩ v).setCell ⟨b, i, none⟩ v0 = { w with heap := ((w.setCell ⟨b, i, none⟩ v).setCell ⟨b, i, none⟩ v0).heap } := rfl
  rw [this, key]
end Go.Proofs.Ybulkecyw
