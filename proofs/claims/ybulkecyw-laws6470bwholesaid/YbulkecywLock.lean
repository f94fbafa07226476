/-
  LawS6470BWhole: the walks of Group.Held and Group.Lock.
-/
import Derived.Test.YbulkecywBase
import Derived.Deep.QuietTactic
import Derived.BigQuiet
import Derived.BigRegion
namespace Go.Proofs.Ybulkecyw
open Go.RowKit Go.MuLone
set_option linter.unusedSimpArgs false
set_option linter.unusedVariables false
/-- The group in block G: its lock is free; its map is m. -/
def GroupAt (w : World) (G : Nat) (m : Option Nat) : Prop := ∃ q : Int, Blk w G 33 #[.int .i32 0, .int .u32 q, .map m]
/-- A nil map, or a map with these holds. -/
def Maps (w : World) (m : Option Nat) (R : List Rec) : Prop := (m = none ∧ R = []) ∨ ∃ M, m = some M ∧ MapAt w M R
def has (R : List Rec) (k : Nat) : Bool := R.any fun r => r.k == k
theorem split_of {R : List Rec} {k : Nat} (h : has R k = true) : ∃ R1 r R2, R = R1 ++ r :: R2 ∧ r.k = k ∧ ∀ r' ∈ R1, r'.k ≠ k := by
  induction R with
  | nil => simp [has] at h
  | cons r R ih =>
    by_cases e : r.k = k
    · exact ⟨[], r, R, rfl, e, fun _ h => by cases h⟩
    · obtain ⟨R1, r', R2, rfl, h1, h2⟩ := ih (by simpa [has, e] using h)
      exact ⟨r :: R1, r', R2, rfl, h1, fun x hx => by
        rcases List.mem_cons.1 hx with rfl | hx
        · exact e
        · exact h2 x hx⟩
theorem none_of {R : List Rec} {k : Nat} (h : has R k = false) : ∀ r ∈ R, r.k ≠ k := by
  intro r hr e
  have : has R k = true := List.any_eq_true.2 ⟨r, hr, by simp [e]⟩
  rw [this] at h; cases h
/-- What 'v, ok := g.held[k]' gives. -/
theorem lookup_any (w : World) (m : Option Nat) (R : List Rec) (k : Nat) (h : Maps w m R) :
    ∃ v, (Instr.lookup 31 (.map m) (.int .i64 (k : Int)) true).run Yba.prog w = .ok (.tuple #[v, .bool (has R k)]) w := by
  rcases h with ⟨rfl, rfl⟩ | ⟨M, rfl, hM⟩
  · exact ⟨_, run_lookup_nil w k⟩
  · cases hh : has R k
    · exact ⟨_, run_lookup_none w M k R (none_of hh) hM⟩
    · obtain ⟨R1, r, R2, rfl, h1, h2⟩ := split_of hh
      exact ⟨_, run_lookup_some w M k R1 R2 r h1 h2 hM⟩
theorem Maps.setCell {w : World} {m : Option Nat} {R : List Rec} (h : Maps w m R) {G : Nat} {q : TypeId} {cs : Array Value} (hG : Blk w G q cs) (i : Nat) (v : Value) : Maps (w.setCell ⟨G, i, none⟩ v) m R := by
  rcases h with h | ⟨M, rfl, hM⟩
  · exact .inl h
  · exact .inr ⟨M, rfl, hM.same (Below.heap_setCell _ _ _ _ (Ne.symm (hM.ne_blk hG)))⟩

set_option maxHeartbeats 1000000 in
theorem held (G : Nat) (m : Option Nat) (R : List Rec) (k : Nat) (w : World) (hG : GroupAt w G m) (hR : Maps w m R) :
    Calls Yba.prog 5 #[ptr G, .int .i64 (k : Int)] w fun e w' => e = .returned (.bool (has R k)) ∧ w' = w := by
  obtain ⟨q, hB⟩ := hG
  obtain ⟨v, hl⟩ := lookup_any (w.setCell ⟨G, 0, none⟩ (.int .i32 1)) m R k (hR.setCell hB 0 _)
  have c0 : w.cell? ⟨G, 0, none⟩ = some (.int .i32 0) := hB.cell 0
  have c2 : w.cell? ⟨G, 2, none⟩ = some (.map m) := hB.cell 2
  have f0 := hB.frozen 0
  have HB : Hid (Blk w G 33 #[.int .i32 0, .int .u32 q, .map m]) := hB
  clear hB hR
  generalize has R k = b at *
  go_enter_defers Yba.func5, Yba.ntmps5
  go_wp2_with (go_at_call 6; refine (lock_free Yba.muLib ⟨G, 0, none⟩ _ c0 f0).mono ?_; rintro e w' ⟨rfl, rfl⟩)
  refine leaves_cons (f := 7) (args := #[.pointer (some ⟨G, 0, none⟩)]) (by simp) (by simp [go_sem]) ?_
  refine (unlock_deferred Yba.muLib ⟨G, 0, none⟩ .returning _ ?_ ?_).mono ?_
  · exact World.cell?_setCell_same w ⟨G, 0, none⟩ (.int .i32 1) c0
  · simp [f0]
  rintro e u' w'' ⟨rfl, rfl, rfl⟩
  exact ⟨_, results_tmp rfl _ _ _, rfl, setCell_back HB.out _ _ rfl⟩

theorem Maps.heap {w w' : World} {m : Option Nat} {R : List Rec} (h : Maps w m R) (hh : ∀ M, m = some M → w'.heap[M]? = w.heap[M]?) : Maps w' m R := by
  rcases h with h | ⟨M, rfl, hM⟩
  · exact .inl h
  · exact .inr ⟨M, rfl, hM.same (hh M rfl)⟩
theorem Maps.alloc {w : World} {m : Option Nat} {R : List Rec} (h : Maps w m R) (o : Obj) : Maps (w.alloc o) m R := by
  rcases h with h | ⟨M, rfl, hM⟩
  · exact .inl h
  · exact .inr ⟨M, rfl, hM.same (Below.heap_alloc _ _ _ hM.lt)⟩
theorem Maps.drewN {w : World} {m : Option Nat} {R : List Rec} (h : Maps w m R) (q : Nat) : Maps (w.drewN q) m R := h
theorem lookup_hit (w : World) (m : Option Nat) (R1 R2 : List Rec) (r : Rec) (k : Nat) (hr : r.k = k) (h1 : ∀ r' ∈ R1, r'.k ≠ k) (h : Maps w m (R1 ++ r :: R2)) :
    (Instr.lookup 31 (.map m) (.int .i64 (k : Int)) true).run Yba.prog w = .ok (.tuple #[ptr r.hb, .bool true]) w := by
  rcases h with ⟨_, h⟩ | ⟨M, rfl, hM⟩
  · simp at h
  · exact run_lookup_some w M k R1 R2 r hr h1 hM
theorem lookup_miss (w : World) (m : Option Nat) (R : List Rec) (k : Nat) (h1 : ∀ r' ∈ R, r'.k ≠ k) (h : Maps w m R) :
    (Instr.lookup 31 (.map m) (.int .i64 (k : Int)) true).run Yba.prog w = .ok (.tuple #[.pointer none, .bool false]) w := by
  rcases h with ⟨rfl, rfl⟩ | ⟨M, rfl, hM⟩
  · exact run_lookup_nil w k
  · exact run_lookup_none w M k R h1 hM

theorem back2 {w : World} {b i : Nat} {t : TypeId} {cs : Array Value} (h : Blk w b t cs) (v v0 : Value) (h0 : cs[i]? = some v0) (A B : Obj) (q : Nat) :
    ((((w.setCell ⟨b, i, none⟩ v).alloc A).alloc B).drewN q).setCell ⟨b, i, none⟩ v0 = ((w.alloc A).alloc B).drewN q := by
  have hlt := h.lt
  have e1 : ((((w.setCell ⟨b, i, none⟩ v).alloc A).alloc B).drewN q).setCell ⟨b, i, none⟩ v0 = ((((w.setCell ⟨b, i, none⟩ v).alloc A).alloc B).setCell ⟨b, i, none⟩ v0).drewN q := rfl
  rw [e1, World.setCell_alloc_past _ _ _ _ (by simp; omega), World.setCell_alloc_past _ _ _ _ (by simp; omega), setCell_back h v v0 h0]
set_option maxHeartbeats 1000000 in
theorem lock_held (G : Nat) (m : Option Nat) (R1 R2 : List Rec) (r : Rec) (k : Nat) (w : World) (hr : r.k = k) (h1 : ∀ r' ∈ R1, r'.k ≠ k) (hG : GroupAt w G m) (hR : Maps w m (R1 ++ r :: R2)) :
    Calls Yba.prog 4 #[ptr G, .int .i64 (k : Int)] w fun e w' => e = .returned (.tuple #[.nilFunc, ptr r.hb]) ∧ ∃ q, w' = ((w.alloc (.cells #[ptr G] 23)).alloc (.cells #[.int .i64 (k : Int)] 3)).drewN q := by
  obtain ⟨q, hB⟩ := hG
  have hl := fun nq => lookup_hit ((((w.setCell ⟨G, 0, none⟩ (.int .i32 1)).alloc (.cells #[ptr G] 23)).alloc (.cells #[.int .i64 (k : Int)] 3)).drewN nq) m R1 R2 r k hr h1 ((((hR.setCell hB 0 _).alloc _).alloc _).drewN nq)
  have c0 : w.cell? ⟨G, 0, none⟩ = some (.int .i32 0) := hB.cell 0
  have c2 : w.cell? ⟨G, 2, none⟩ = some (.map m) := hB.cell 2
  have f0 := hB.frozen 0
  have hlt := hB.lt
  have HB : Hid (Blk w G 33 #[.int .i32 0, .int .u32 q, .map m]) := hB
  clear hB hR hr h1
  go_enter_defers Yba.func4, Yba.ntmps4
  go_wp2_with fail
  refine (lock_free Yba.muLib ⟨G, 0, none⟩ _ (by simp [go_sem, c0, hlt]) (by simp [go_sem, f0, hlt])).mono ?_
  rintro e w' ⟨rfl, rfl⟩
  go_wp2
  go_quiet (fail)
  go_wp2
  refine leaves_cons (f := 7) (args := #[.pointer (some ⟨G, 0, none⟩)]) (by simp) (by simp [go_sem]) ?_
  refine (unlock_deferred Yba.muLib ⟨G, 0, none⟩ .returning _ ?_ ?_).mono ?_
  · simp [go_sem, hlt]; exact World.cell?_setCell_same w ⟨G, 0, none⟩ (.int .i32 1) c0
  · simp [go_sem, hlt, f0]
  rintro e u' w'' ⟨rfl, rfl, rfl⟩
  exact ⟨_, results_tmp2 rfl _ _ _, rfl, _, back2 HB.out _ _ rfl _ _ _⟩

theorem run_makeChan (w : World) : (Instr.makeChan 44 (.int .i64 0)).run Yba.prog w = .ok (.chan (some w.heap.size)) (w.alloc (.chan 0 #[] false 0 0 false)) := by kernel_rfl
theorem putObj_drewN (w : World) (M : Nat) (o : Obj) (q : Nat) : (w.drewN q).putObj M o = (w.putObj M o).drewN q := rfl

theorem blk_last (w : World) (cs : Array Value) (t : TypeId) (n : Nat) (hn : n = w.heap.size) : Blk (w.alloc (.cells cs t)) n t cs := by subst hn; exact heap_alloc_new w _
theorem heap_last (w : World) (o : Obj) (n : Nat) (hn : n = w.heap.size) : (w.alloc o).heap[n]? = some o := by subst hn; exact heap_alloc_new w _
/-- The three blocks that Lock lays for a new Hold. -/
def withHold (w : World) : World := ((w.alloc (.chan 0 #[] false 0 0 false)).alloc (.cells #[.chan (some w.heap.size), .int .i64 0] 46)).alloc (.cells #[ptr (w.heap.size + 1)] 35)
theorem withHold_facts (w : World) : (withHold w).heap[w.heap.size]? = some (.chan 0 #[] false 0 0 false) ∧ Blk (withHold w) (w.heap.size + 1) 46 #[.chan (some w.heap.size), .int .i64 0] ∧ Blk (withHold w) (w.heap.size + 2) 35 #[ptr (w.heap.size + 1)] ∧
    (withHold w).heap.size = w.heap.size + 3 ∧ ∀ i, i < w.heap.size → (withHold w).heap[i]? = w.heap[i]? := by
  unfold withHold
  refine ⟨?_, ?_, ?_, by simp, fun i hi => ?_⟩
  · rw [Below.heap_alloc _ _ _ (by simp; omega), Below.heap_alloc _ _ _ (by simp)]; exact heap_last _ _ _ rfl
  · exact (blk_last _ _ _ _ (by simp)).alloc _
  · exact blk_last _ _ _ _ (by simp)
  · rw [Below.heap_alloc _ _ _ (by simp; omega), Below.heap_alloc _ _ _ (by simp; omega), Below.heap_alloc _ _ _ hi]
/-- The two boxed parameters of Lock. -/
def withArgs (w : World) (G k : Nat) : World := (w.alloc (.cells #[ptr G] 23)).alloc (.cells #[.int .i64 (k : Int)] 3)
theorem withArgs_facts (w : World) (G k : Nat) : Blk (withArgs w G k) w.heap.size 23 #[ptr G] ∧ Blk (withArgs w G k) (w.heap.size + 1) 3 #[.int .i64 (k : Int)] ∧ (withArgs w G k).heap.size = w.heap.size + 2 ∧ ∀ i, i < w.heap.size → (withArgs w G k).heap[i]? = w.heap[i]? := by
  unfold withArgs
  refine ⟨(blk_last _ _ _ _ rfl).alloc _, blk_last _ _ _ _ (by simp), by simp, fun i hi => ?_⟩
  rw [Below.heap_alloc _ _ _ (by simp; omega), Below.heap_alloc _ _ _ hi]
/-- A holding as it lies in memory. -/
structure RecAt (w : World) (G : Nat) (r : Rec) : Prop where
  hold : Blk w r.hb 46 #[.chan (some r.ch), .int .i64 0]
  chan : w.heap[r.ch]? = some (.chan 0 #[] false 0 0 false)
  gbox : Blk w r.gb 23 #[ptr G]
  kbox : Blk w r.kb 3 #[.int .i64 (r.k : Int)]
  xbox : Blk w r.xb 35 #[ptr r.hb]
theorem RecAt.same {w w' : World} {G : Nat} {r : Rec} (h : RecAt w G r) (hs : ∀ i, i = r.hb ∨ i = r.ch ∨ i = r.gb ∨ i = r.kb ∨ i = r.xb → w'.heap[i]? = w.heap[i]?) : RecAt w' G r :=
  ⟨(hs _ (.inl rfl)).trans h.hold, (hs _ (.inr (.inl rfl))).trans h.chan, (hs _ (.inr (.inr (.inl rfl)))).trans h.gbox, (hs _ (.inr (.inr (.inr (.inl rfl))))).trans h.kbox, (hs _ (.inr (.inr (.inr (.inr rfl))))).trans h.xbox⟩
/-- What Lock leaves where nobody held the key. -/
structure Locked (w : World) (G : Nat) (m : Option Nat) (R : List Rec) (k : Nat) (r : Rec) (M : Nat) (w' : World) : Prop where
  key : r.k = k
  new : ∀ i, i = r.hb ∨ i = r.ch ∨ i = r.gb ∨ i = r.kb ∨ i = r.xb → w.heap.size ≤ i
  recAt : RecAt w' G r
  grp : GroupAt w' G (some M)
  map : MapAt w' M (R ++ [r])
  mold : m = some M ∨ (m = none ∧ w.heap.size ≤ M)
  keeps : Keeps w.heap.size (G :: m.toList) w w'
/-- From the world in which Lock comes to fill the map to what it leaves. -/
theorem locked_of {w W : World} {G : Nat} {m : Option Nat} {R : List Rec} {r : Rec} {M : Nat} {q : Int} {es : Array MapEntry} {clock d : Nat}
    (hnew : ∀ i, i = r.hb ∨ i = r.ch ∨ i = r.gb ∨ i = r.kb ∨ i = r.xb → w.heap.size ≤ i) (hG : G < w.heap.size) (hrec : RecAt W G r) (hB : Blk W G 33 #[.int .i32 1, .int .u32 q, .map (some M)])
    (hM : W.heap[M]? = some (.map es clock)) (he : es.toList.map (fun e => (e.key, e.val)) = R.map fun r => (Value.int .i64 (r.k : Int), ptr r.hb)) (hm : m = some M ∨ (m = none ∧ w.heap.size ≤ M)) (hk : Keeps w.heap.size (G :: m.toList) w W) :
    Locked w G m R r.k r M (((W.putObj M (.map (es.push { key := .int .i64 (r.k : Int), val := ptr r.hb, born := clock }) (clock + 1))).drewN d).setCell ⟨G, 0, none⟩ (.int .i32 0)) := by
  have hlM : M < W.heap.size := (Array.getElem?_eq_some_iff.1 hM).1
  have hGM : G ≠ M := fun e => by rw [Blk, e, hM] at hB; cases hB
  have hne : ∀ i, i = r.hb ∨ i = r.ch ∨ i = r.gb ∨ i = r.kb ∨ i = r.xb → i ≠ M := by
    intro i hi e
    rcases hi with e' | e' | e' | e' | e'
    · have := hrec.hold; rw [Blk, ← e', e, hM] at this; cases this
    · have := hrec.chan; rw [← e', e, hM] at this; cases this
    · have := hrec.gbox; rw [Blk, ← e', e, hM] at this; cases this
    · have := hrec.kbox; rw [Blk, ← e', e, hM] at this; cases this
    · have := hrec.xbox; rw [Blk, ← e', e, hM] at this; cases this
  refine ⟨rfl, hnew, hrec.same fun i hi => ?_, ⟨q, ?_⟩, ⟨es.push { key := .int .i64 (r.k : Int), val := ptr r.hb, born := clock }, clock + 1, ?_, ?_⟩, hm, ?_⟩
  · rw [Below.heap_setCell _ _ _ _ (by have := hnew i hi; show i ≠ G; omega)]
    exact World.putObj_heap_other (hne i hi)
  · have h2 : Blk ((W.putObj M (.map (es.push { key := .int .i64 (r.k : Int), val := ptr r.hb, born := clock }) (clock + 1))).drewN d) G 33 #[.int .i32 1, .int .u32 q, .map (some M)] := hB.putOther hGM _
    exact h2.set 0 (.int .i32 0)
  · rw [Below.heap_setCell _ _ _ _ (by show M ≠ G; omega)]
    exact World.putObj_heap_same hlM
  · simp [he]
  · refine ((hk.putObj ?_ _).drewN d).setCell (.inl (List.mem_cons_self ..)) _
    rcases hm with rfl | ⟨rfl, h⟩
    · exact .inl (by simp)
    · exact .inr h

set_option maxHeartbeats 1000000 in
theorem lock_new_some (G M : Nat) (R : List Rec) (k : Nat) (w : World) (h1 : ∀ r' ∈ R, r'.k ≠ k) (hG : GroupAt w G (some M)) (hR : MapAt w M R) :
    Calls Yba.prog 4 #[ptr G, .int .i64 (k : Int)] w fun e w' => ∃ r M', e = .returned (.tuple #[.func (.func 8) #[] #[ptr r.gb, ptr r.kb, ptr r.xb], .pointer none]) ∧ Locked w G (some M) R k r M' w' := by
  obtain ⟨q, hB⟩ := hG
  have hGM := hR.ne_blk hB
  have hlM := hR.lt
  obtain ⟨es, clock, hes, hmap⟩ := hR
  have HM : Hid (w.heap[M]? = some (.map es clock)) := hes
  have HE : Hid (es.toList.map (fun e => (e.key, e.val)) = R.map fun r => (Value.int .i64 (r.k : Int), ptr r.hb)) := hmap
  have hl := fun nq => run_lookup_none ((((w.setCell ⟨G, 0, none⟩ (.int .i32 1)).alloc (.cells #[ptr G] 23)).alloc (.cells #[.int .i64 (k : Int)] 3)).drewN nq) M k R h1 ⟨es, clock, by
    show (((w.setCell ⟨G, 0, none⟩ (.int .i32 1)).alloc (.cells #[ptr G] 23)).alloc (.cells #[.int .i64 (k : Int)] 3)).heap[M]? = _
    rw [Below.heap_alloc _ _ _ (by simp; omega), Below.heap_alloc _ _ _ (by simp; omega), Below.heap_setCell _ _ _ _ (Ne.symm hGM)]; exact hes, hmap⟩
  have hmc := run_makeChan
  have q31 : ∀ (w : World) (r : Option Nat), (binOp .eql 31 (.map r) (.map none)).run Yba.prog w = .ok (.bool r.isNone) w := fun w r => run_eql_map_nil w _ _ _ r Yba.underlying31
  have c0 : w.cell? ⟨G, 0, none⟩ = some (.int .i32 0) := hB.cell 0
  have c2 : w.cell? ⟨G, 2, none⟩ = some (.map (some M)) := hB.cell 2
  have f0 := hB.frozen 0
  have hlt := hB.lt
  have HB : Hid (Blk w G 33 #[.int .i32 0, .int .u32 q, .map (some M)]) := hB
  have HN : Hid (∀ r' ∈ R, r'.k ≠ k) := h1
  clear hB hes hmap h1
  go_enter_defers Yba.func4, Yba.ntmps4
  go_wp2_with fail
  refine (lock_free Yba.muLib ⟨G, 0, none⟩ _ (by simp [go_sem, c0, hlt]) (by simp [go_sem, f0, hlt])).mono ?_
  rintro e w' ⟨rfl, rfl⟩
  go_wp2
  go_quiet (fail)
  clear hl
  go_wp2
  obtain ⟨W, hW⟩ : ∃ W, W = withHold ((withArgs (w.setCell ⟨G, 0, none⟩ (.int .i32 1)) G k).drewN nq) := ⟨_, rfl⟩
  have hW2 : ((((((w.setCell ⟨G, 0, none⟩ (.int .i32 1)).alloc (.cells #[ptr G] 23)).alloc (.cells #[.int .i64 (k : Int)] 3)).drewN nq).alloc (.chan 0 #[] false 0 0 false)).alloc (.cells #[.chan (some (w.heap.size + 1 + 1)), .int .i64 0] 46)).alloc (.cells #[.pointer (some ⟨w.heap.size + 1 + 1 + 1, 0, none⟩)] 35) = W := by
    rw [hW]; simp [withHold, withArgs]
  rw [hW2]
  have hV : ((withArgs (w.setCell ⟨G, 0, none⟩ (.int .i32 1)) G k).drewN nq).heap.size = w.heap.size + 2 := by
    show (withArgs (w.setCell ⟨G, 0, none⟩ (.int .i32 1)) G k).heap.size = _
    rw [(withArgs_facts _ G k).2.2.1]; simp
  obtain ⟨a1, a2, a3, a4⟩ := withArgs_facts (w.setCell ⟨G, 0, none⟩ (.int .i32 1)) G k
  obtain ⟨b1, b2, b3, b4, b5⟩ := withHold_facts ((withArgs (w.setCell ⟨G, 0, none⟩ (.int .i32 1)) G k).drewN nq)
  rw [← hW] at b1 b2 b3 b4 b5
  rw [hV] at b1 b2 b3 b4 b5
  have hs : (w.setCell ⟨G, 0, none⟩ (.int .i32 1)).heap.size = w.heap.size := by simp
  rw [hs] at a1 a2 a3 a4
  have b6 : ∀ i, i < w.heap.size → i ≠ G → W.heap[i]? = w.heap[i]? := fun i hi hne => by
    rw [b5 i (by omega)]; exact (a4 i hi).trans (Below.heap_setCell _ _ _ _ hne)
  have b7 : Blk W G 33 #[.int .i32 1, .int .u32 q, .map (some M)] := by
    have h2 := HB.out.set 0 (.int .i32 1)
    rw [Blk, b5 G (by omega)]; exact (a4 G hlt).trans h2
  have b8 : Blk W w.heap.size 23 #[ptr G] := by rw [Blk, b5 _ (by omega)]; exact a1
  have b9 : Blk W (w.heap.size + 1) 3 #[.int .i64 (k : Int)] := by rw [Blk, b5 _ (by omega)]; exact a2
  have hMW : W.heap[M]? = some (.map es clock) := (b6 M hlM (Ne.symm hGM)).trans HM.out
  have hkp : Keeps w.heap.size (G :: (some M).toList) w W := ⟨by rw [hW]; rfl, by rw [hW]; rfl, by rw [hW]; rfl, by omega, fun i hi hx => b6 i hi fun e => hx (by simp [e])⟩
  have HK : Hid (Locked w G (some M) R k ⟨k, w.heap.size + 3, w.heap.size + 2, w.heap.size, w.heap.size + 1, w.heap.size + 4⟩ M (((W.putObj M (.map (es.push { key := .int .i64 (k : Int), val := ptr (w.heap.size + 3), born := clock }) (clock + 1))).drewN 1).setCell ⟨G, 0, none⟩ (.int .i32 0))) :=
    locked_of (r := ⟨k, w.heap.size + 3, w.heap.size + 2, w.heap.size, w.heap.size + 1, w.heap.size + 4⟩) (fun i hi => by simp at hi; omega) hlt ⟨b2, b1, b8, b9, b3⟩ b7 hMW HE.out (.inl rfl) hkp
  have hu : (Instr.mapUpdate 31 (.map (some M)) (.int .i64 (k : Int)) (ptr (w.heap.size + 1 + 1 + 1))).run Yba.prog W.drew = .ok () (W.putObj M (.map (es.push { key := .int .i64 (k : Int), val := ptr (w.heap.size + 3), born := clock }) (clock + 1))).drew := by
    have hMd : W.drew.heap[M]? = some (.map es clock) := hMW
    simp [Instr.mapUpdate, run_underlying Yba.underlying31, getMap hMd, run_checkKey, run_findKey W.drew k es _ HE.out, look_none HN.out, setMap _ hMd]
    rfl
  have d1 : W.cell? ⟨w.heap.size, 0, none⟩ = some (ptr G) := b8.cell 0
  have d2 : W.cell? ⟨G, 2, none⟩ = some (.map (some M)) := b7.cell 2
  have d3 : W.cell? ⟨w.heap.size + 1, 0, none⟩ = some (.int .i64 (k : Int)) := b9.cell 0
  have d4 : W.cell? ⟨w.heap.size + 1 + 1 + 1 + 1, 0, none⟩ = some (ptr (w.heap.size + 1 + 1 + 1)) := b3.cell 0
  have d5 : (W.putObj M (.map (es.push { key := .int .i64 (k : Int), val := ptr (w.heap.size + 3), born := clock }) (clock + 1))).cell? ⟨G, 0, none⟩ = some (.int .i32 1) := (b7.putOther hGM _).cell 0
  have d6 : (W.putObj M (.map (es.push { key := .int .i64 (k : Int), val := ptr (w.heap.size + 3), born := clock }) (clock + 1))).frozen? ⟨G, 0, none⟩ = false := (b7.putOther hGM _).frozen 0
  clear hW hW2 hV a1 a2 a3 a4 b1 b2 b3 b4 b5 b6 b7 b8 b9 hMW hkp hs c0 c2 hmc q31 HM HE HB
  go_region
  go_wp2
  refine leaves_cons (f := 7) (args := #[.pointer (some ⟨G, 0, none⟩)]) (by simp) (by simp [go_sem]) ?_
  refine (unlock_deferred Yba.muLib ⟨G, 0, none⟩ .returning _ ?_ ?_).mono ?_
  · exact d5
  · exact d6
  rintro e u' w'' ⟨rfl, rfl, rfl⟩
  exact ⟨_, results_tmp2 rfl _ _ _, _, _, rfl, HK.out⟩
set_option maxHeartbeats 1000000 in
theorem lock_new_none (G k : Nat) (w : World) (hG : GroupAt w G none) :
    Calls Yba.prog 4 #[ptr G, .int .i64 (k : Int)] w fun e w' => ∃ r M', e = .returned (.tuple #[.func (.func 8) #[] #[ptr r.gb, ptr r.kb, ptr r.xb], .pointer none]) ∧ Locked w G none [] k r M' w' := by
  obtain ⟨q, hB⟩ := hG
  have hl := fun nq => run_lookup_nil ((((w.setCell ⟨G, 0, none⟩ (.int .i32 1)).alloc (.cells #[ptr G] 23)).alloc (.cells #[.int .i64 (k : Int)] 3)).drewN nq) k
  have hmc := run_makeChan
  have hmm := @run_makeMap Yba.prog
  have q31 : ∀ (w : World) (r : Option Nat), (binOp .eql 31 (.map r) (.map none)).run Yba.prog w = .ok (.bool r.isNone) w := fun w r => run_eql_map_nil w _ _ _ r Yba.underlying31
  have c0 : w.cell? ⟨G, 0, none⟩ = some (.int .i32 0) := hB.cell 0
  have c2 : w.cell? ⟨G, 2, none⟩ = some (.map none) := hB.cell 2
  have f0 := hB.frozen 0
  have f2 := hB.frozen 2
  have hlt := hB.lt
  have HB : Hid (Blk w G 33 #[.int .i32 0, .int .u32 q, .map none]) := hB
  clear hB
  go_enter_defers Yba.func4, Yba.ntmps4
  go_wp2_with fail
  refine (lock_free Yba.muLib ⟨G, 0, none⟩ _ (by simp [go_sem, c0, hlt]) (by simp [go_sem, f0, hlt])).mono ?_
  rintro e w' ⟨rfl, rfl⟩
  go_wp2
  go_quiet (fail)
  clear hl
  obtain ⟨a1, a2, a3, a4⟩ := withArgs_facts (w.setCell ⟨G, 0, none⟩ (.int .i32 1)) G k
  have hs : (w.setCell ⟨G, 0, none⟩ (.int .i32 1)).heap.size = w.heap.size := by simp
  rw [hs] at a1 a2 a3 a4
  have a5 : Blk (withArgs (w.setCell ⟨G, 0, none⟩ (.int .i32 1)) G k) G 33 #[.int .i32 1, .int .u32 q, .map none] := (a4 G hlt).trans (HB.out.set 0 (.int .i32 1))
  have a6 : ∀ i, i < w.heap.size → i ≠ G → (withArgs (w.setCell ⟨G, 0, none⟩ (.int .i32 1)) G k).heap[i]? = w.heap[i]? := fun i hi hne => (a4 i hi).trans (Below.heap_setCell _ _ _ _ hne)
  obtain ⟨V, hV⟩ : ∃ V, V = (withArgs (w.setCell ⟨G, 0, none⟩ (.int .i32 1)) G k).drewN nq := ⟨_, rfl⟩
  have hV2 : ((((w.setCell ⟨G, 0, none⟩ (.int .i32 1)).alloc (.cells #[ptr G] 23)).alloc (.cells #[.int .i64 (k : Int)] 3)).drewN nq) = V := by rw [hV]; rfl
  rw [hV2]
  have A1 : Hid (Blk V w.heap.size 23 #[ptr G]) := by subst hV; exact a1
  have A2 : Hid (Blk V (w.heap.size + 1) 3 #[.int .i64 (k : Int)]) := by subst hV; exact a2
  have A3 : V.heap.size = w.heap.size + 2 := by subst hV; exact a3
  have A5 : Hid (Blk V G 33 #[.int .i32 1, .int .u32 q, .map none]) := by subst hV; exact a5
  have A6 : Hid (∀ i, i < w.heap.size → i ≠ G → V.heap[i]? = w.heap[i]?) := by subst hV; exact a6
  have A7 : Hid (V.os = w.os ∧ V.tape = w.tape ∧ V.output = w.output) := by subst hV; exact ⟨rfl, rfl, rfl⟩
  clear hV hV2 a1 a2 a3 a4 a5 a6 hs c0 c2 f0 f2 HB
  have g0 := A1.out.cell 0
  have g1 := A2.out.cell 0
  have g2 := A5.out.cell 2
  have z2 := A5.out.frozen 2
  have z0 : G < V.heap.size := by omega
  have z1 : w.heap.size < V.heap.size := by omega
  have z3 : w.heap.size + 1 < V.heap.size := by omega
  have HA : Hid (V.heap.size = w.heap.size + 2) := A3
  clear A3
  simp at g0 g1 g2
  go_wp2
  obtain ⟨W, hW⟩ : ∃ W, W = withHold ((V.setCell ⟨G, 2, none⟩ (.map (some V.heap.size))).alloc (.map #[] 0)) := ⟨_, rfl⟩
  have hW2 : ((((V.setCell ⟨G, 2, none⟩ (.map (some V.heap.size))).alloc (.map #[] 0)).alloc (.chan 0 #[] false 0 0 false)).alloc (.cells #[.chan (some (V.heap.size + 1)), .int .i64 0] 46)).alloc (.cells #[.pointer (some ⟨V.heap.size + 1 + 1, 0, none⟩)] 35) = W := by
    rw [hW]; simp [withHold]
  rw [hW2]
  have hU : ((V.setCell ⟨G, 2, none⟩ (.map (some V.heap.size))).alloc (.map #[] 0)).heap.size = V.heap.size + 1 := by simp
  obtain ⟨b1, b2, b3, b4, b5⟩ := withHold_facts ((V.setCell ⟨G, 2, none⟩ (.map (some V.heap.size))).alloc (.map #[] 0))
  rw [← hW] at b1 b2 b3 b4 b5
  rw [hU] at b1 b2 b3 b4 b5
  have b6 : ∀ i, i < V.heap.size → i ≠ G → W.heap[i]? = V.heap[i]? := fun i hi hne => by
    rw [b5 i (by omega), Below.heap_alloc _ _ _ (by simp; omega)]; exact Below.heap_setCell _ _ _ _ hne
  have b7 : Blk W G 33 #[.int .i32 1, .int .u32 q, .map (some V.heap.size)] := by
    have h2 := (A5.out.set 2 (.map (some V.heap.size))).alloc (.map #[] 0)
    rw [Blk, b5 G (by omega)]; exact h2
  have b8 : Blk W w.heap.size 23 #[ptr G] := by rw [Blk, b6 _ z1 (by omega)]; exact A1.out
  have b9 : Blk W (w.heap.size + 1) 3 #[.int .i64 (k : Int)] := by rw [Blk, b6 _ z3 (by omega)]; exact A2.out
  have hMW : W.heap[V.heap.size]? = some (.map #[] 0) := by rw [b5 _ (by omega)]; exact heap_last _ _ _ (by simp)
  have hsz := HA.out
  have hkp : Keeps w.heap.size (G :: (none : Option Nat).toList) w W := ⟨by rw [hW]; exact A7.out.1, by rw [hW]; exact A7.out.2.1, by rw [hW]; exact A7.out.2.2, by omega, fun i hi hx => (b6 i (by omega) fun e => hx (by simp [e])).trans (A6.out i hi fun e => hx (by simp [e]))⟩
  have HK : Hid (Locked w G none [] k ⟨k, V.heap.size + 2, V.heap.size + 1, w.heap.size, w.heap.size + 1, V.heap.size + 3⟩ V.heap.size (((W.putObj V.heap.size (.map ((#[] : Array MapEntry).push { key := .int .i64 (k : Int), val := ptr (V.heap.size + 2), born := 0 }) (0 + 1))).drewN 1).setCell ⟨G, 0, none⟩ (.int .i32 0))) :=
    locked_of (r := ⟨k, V.heap.size + 2, V.heap.size + 1, w.heap.size, w.heap.size + 1, V.heap.size + 3⟩) (fun i hi => by simp at hi; omega) hlt ⟨b2, b1, b8, b9, b3⟩ b7 hMW rfl (.inr ⟨rfl, by omega⟩) hkp
  have hGM : G ≠ V.heap.size := by omega
  have hu : (Instr.mapUpdate 31 (.map (some V.heap.size)) (.int .i64 (k : Int)) (ptr (V.heap.size + 1 + 1))).run Yba.prog W.drew = .ok () (W.putObj V.heap.size (.map ((#[] : Array MapEntry).push { key := .int .i64 (k : Int), val := ptr (V.heap.size + 2), born := 0 }) (0 + 1))).drew := by
    have hMd : W.drew.heap[V.heap.size]? = some (.map #[] 0) := hMW
    have hfk := run_findKey W.drew k #[] [] rfl
    simp only [look] at hfk
    simp only [Instr.mapUpdate, Sem.run_bind, run_underlying Yba.underlying31, Result.andThen_ok, getMap hMd, run_checkKey, hfk, setMap _ hMd]
    rfl
  generalize hO : (Obj.map ((#[] : Array MapEntry).push { key := .int .i64 (k : Int), val := ptr (V.heap.size + 2), born := 0 }) (0 + 1)) = O at hu HK
  have d1 : W.cell? ⟨w.heap.size, 0, none⟩ = some (ptr G) := b8.cell 0
  have d2 : W.cell? ⟨G, 2, none⟩ = some (.map (some V.heap.size)) := b7.cell 2
  have d3 : W.cell? ⟨w.heap.size + 1, 0, none⟩ = some (.int .i64 (k : Int)) := b9.cell 0
  have d4 : W.cell? ⟨V.heap.size + 1 + 1 + 1, 0, none⟩ = some (ptr (V.heap.size + 1 + 1)) := b3.cell 0
  have d5 : (W.putObj V.heap.size O).cell? ⟨G, 0, none⟩ = some (.int .i32 1) := (b7.putOther hGM _).cell 0
  have d6 : (W.putObj V.heap.size O).frozen? ⟨G, 0, none⟩ = false := (b7.putOther hGM _).frozen 0
  clear hO hW hW2 hU b1 b2 b3 b4 b5 b6 b7 b8 b9 hMW hkp hmc hmm q31 A1 A2 A5 A6 A7 HA g0 g1 g2 z2 z0 z1 z3 hsz
  go_region
  go_wp2
  refine leaves_cons (f := 7) (args := #[.pointer (some ⟨G, 0, none⟩)]) (by simp) (by simp [go_sem]) ?_
  refine (unlock_deferred Yba.muLib ⟨G, 0, none⟩ .returning _ ?_ ?_).mono ?_
  · exact d5
  · exact d6
  rintro e u' w'' ⟨rfl, rfl, rfl⟩
  exact ⟨_, results_tmp2 rfl _ _ _, _, _, rfl, HK.out⟩
end Go.Proofs.Ybulkecyw
