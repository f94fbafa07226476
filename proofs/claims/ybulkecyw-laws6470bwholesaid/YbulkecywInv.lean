/-
  LawS6470BWhole: what holds at the head of every round of the law's loop, and that each step keeps it.
-/
import Derived.Test.YbulkecywUnlock
namespace Go.Proofs.Ybulkecyw
open Go.RowKit
set_option linter.unusedVariables false

/-- The record of key k. -/
def rec? (R : List Rec) (k : Nat) : Option Rec := R.find? fun r => r.k == k
/-- What the law's 'holds' has for key k. -/
def hp (R : List Rec) (k : Nat) : Value := match rec? R k with | some r => ptr r.hb | none => .pointer none
/-- The unlock function of a record. -/
def unl (r : Rec) : Value := .func (.func 8) #[] #[ptr r.gb, ptr r.kb, ptr r.xb]
/-- What the law's 'unlocks' has for key k. -/
def uf (R : List Rec) (k : Nat) : Value := match rec? R k with | some r => unl r | none => .nilFunc
/-- Four cells by a function. -/
def arr (f : Nat → Value) : Array Value := #[f 0, f 1, f 2, f 3]
theorem nat4 {k : Nat} (h : k < 4) : k = 0 ∨ k = 1 ∨ k = 2 ∨ k = 3 := by omega
theorem arr_get (f : Nat → Value) {k : Nat} (h : k < 4) : (arr f)[k]? = some (f k) := by
  rcases nat4 h with rfl | rfl | rfl | rfl <;> rfl
theorem arr_set (f g : Nat → Value) {k : Nat} (h : k < 4) (v : Value) (hk : g k = v) (ho : ∀ j, j < 4 → j ≠ k → g j = f j) : (arr f).setIfInBounds k v = arr g := by
  have e : ∀ j, j < 4 → (if j = k then v else f j) = g j := fun j hj => by
    by_cases e : j = k
    · subst e; simp [hk]
    · simp [e, ho j hj e]
  have e0 := e 0 (by omega)
  have e1 := e 1 (by omega)
  have e2 := e 2 (by omega)
  have e3 := e 3 (by omega)
  rcases nat4 h with rfl | rfl | rfl | rfl <;> simp at e0 e1 e2 e3 <;> simp [arr, e0, e1, e2, e3]

theorem has_append (R : List Rec) (r : Rec) (j : Nat) : has (R ++ [r]) j = (has R j || r.k == j) := by simp [has]
theorem rec?_append_ne {R : List Rec} {r : Rec} {j : Nat} (h : r.k ≠ j) : rec? (R ++ [r]) j = rec? R j := by simp [rec?, List.find?_append, h]
theorem rec?_append_eq {R : List Rec} {r : Rec} (h : has R r.k = false) : rec? (R ++ [r]) r.k = some r := by
  have : R.find? (fun x => x.k == r.k) = none := by
    rw [List.find?_eq_none]; intro x hx; simp; exact none_of h x hx
  simp [rec?, List.find?_append, this]
theorem rec?_mid {R1 R2 : List Rec} {r : Rec} (h : ∀ x ∈ R1, x.k ≠ r.k) : rec? (R1 ++ r :: R2) r.k = some r := by
  have : R1.find? (fun x => x.k == r.k) = none := by
    rw [List.find?_eq_none]; intro x hx; simp; exact h x hx
  simp [rec?, List.find?_append, this]
theorem rec?_del {R1 R2 : List Rec} {r : Rec} {j : Nat} (h : r.k ≠ j) : rec? (R1 ++ R2) j = rec? (R1 ++ r :: R2) j := by
  simp [rec?, List.find?_append, h]
theorem has_del {R1 R2 : List Rec} {r : Rec} {j : Nat} (h : r.k ≠ j) : has (R1 ++ R2) j = has (R1 ++ r :: R2) j := by
  have : (r.k == j) = false := by simpa using h
  simp [has, this]
theorem rec?_none {R : List Rec} {k : Nat} (h : has R k = false) : rec? R k = none := by
  rw [rec?, List.find?_eq_none]; intro x hx; simp; exact none_of h x hx

/-- WHAT HOLDS at the head of every round: n0: the heap's size when the law was called; the group lies in block n0, held, holds, unlocks in the three behind it. -/
structure Inv (w : World) (n0 : Nat) (wr : World) (R : List Rec) (m : Option Nat) : Prop where
  grp : GroupAt wr n0 m
  maps : Maps wr m R
  mnew : ∀ M, m = some M → n0 + 4 ≤ M
  recs : ∀ r ∈ R, RecAt wr n0 r
  keys : ∀ r ∈ R, r.k < 4
  rnew : ∀ r ∈ R, ∀ i, i = r.hb ∨ i = r.ch ∨ i = r.gb ∨ i = r.kb ∨ i = r.xb → n0 + 4 ≤ i
  kdis : R.Pairwise fun a b => a.k ≠ b.k
  hdis : R.Pairwise fun a b => a.hb ≠ b.hb
  cdis : R.Pairwise fun a b => a.ch ≠ b.ch
  a4 : Blk wr (n0 + 1) 34 (arr fun j => .bool (has R j))
  a5 : Blk wr (n0 + 1 + 1) 36 (arr (hp R))
  a6 : Blk wr (n0 + 1 + 1 + 1) 38 (arr (uf R))
  below : Below n0 w wr

theorem RecAt.lt {w : World} {G : Nat} {r : Rec} (h : RecAt w G r) : ∀ i, i = r.hb ∨ i = r.ch ∨ i = r.gb ∨ i = r.kb ∨ i = r.xb → i < w.heap.size := by
  intro i hi
  rcases hi with rfl | rfl | rfl | rfl | rfl
  · exact h.hold.lt
  · exact (Array.getElem?_eq_some_iff.1 h.chan).1
  · exact h.gbox.lt
  · exact h.kbox.lt
  · exact h.xbox.lt
theorem Maps.lt {w : World} {m : Option Nat} {R : List Rec} (h : Maps w m R) : ∀ M, m = some M → M < w.heap.size := by
  rcases h with ⟨rfl, _⟩ | ⟨M, rfl, hM⟩
  · intro M h; cases h
  · intro M' h; cases h; exact hM.lt

/-- Nothing that was there has turned. -/
theorem Inv.ext {w wr wr' : World} {n0 : Nat} {R : List Rec} {m : Option Nat} (h : Inv w n0 wr R m) (k : Keeps wr.heap.size [] wr wr') : Inv w n0 wr' R m where
  grp := by obtain ⟨q, hB⟩ := h.grp; exact ⟨q, hB.keeps k hB.lt (by simp)⟩
  maps := h.maps.heap fun M hM => k.block M (h.maps.lt M hM) (by simp)
  mnew := h.mnew
  recs := fun r hr => (h.recs r hr).same fun i hi => k.block i ((h.recs r hr).lt i hi) (by simp)
  keys := h.keys
  rnew := h.rnew
  kdis := h.kdis
  hdis := h.hdis
  cdis := h.cdis
  a4 := h.a4.keeps k h.a4.lt (by simp)
  a5 := h.a5.keeps k h.a5.lt (by simp)
  a6 := h.a6.keeps k h.a6.lt (by simp)
  below := h.below.trans (k.below (by have := h.a4.lt; omega) (by simp))

/-- Lock has taken a key; the law has noted it. -/
theorem Inv.locked {w wr w' : World} {n0 k M : Nat} {R : List Rec} {m : Option Nat} {r : Rec} (h : Inv w n0 wr R m) (hk : k < 4) (hn : has R k = false) (l : Locked wr n0 m R k r M w') :
    Inv w n0 (((w'.setCell ⟨n0 + 1, k, none⟩ (.bool true)).setCell ⟨n0 + 1 + 1, k, none⟩ (ptr r.hb)).setCell ⟨n0 + 1 + 1 + 1, k, none⟩ (unl r)) (R ++ [r]) (some M) := by
  have hs4 := h.a4.lt
  have hs5 := h.a5.lt
  have hs6 := h.a6.lt
  have hsz := l.keeps.size
  have hMn : n0 + 4 ≤ M := by
    rcases l.mold with e | ⟨_, e⟩
    · exact h.mnew M e
    · omega
  -- a block from n0 + 4 on is not touched by the three stores
  have hup : ∀ i, n0 + 4 ≤ i → (((w'.setCell ⟨n0 + 1, k, none⟩ (.bool true)).setCell ⟨n0 + 1 + 1, k, none⟩ (ptr r.hb)).setCell ⟨n0 + 1 + 1 + 1, k, none⟩ (unl r)).heap[i]? = w'.heap[i]? := fun i hi => by
    rw [Below.heap_setCell _ _ _ _ (by show i ≠ n0 + 1 + 1 + 1; omega), Below.heap_setCell _ _ _ _ (by show i ≠ n0 + 1 + 1; omega), Below.heap_setCell _ _ _ _ (by show i ≠ n0 + 1; omega)]
  have hold : ∀ i, i < wr.heap.size → i ≠ n0 → (∀ M', m = some M' → i ≠ M') → w'.heap[i]? = wr.heap[i]? := fun i hi h1 h2 => l.keeps.block i hi (by
    simp only [List.mem_cons, not_or]
    refine ⟨h1, ?_⟩
    cases m with
    | none => simp
    | some M' => simpa using h2 M' rfl)
  have hrm : ∀ x ∈ R, ∀ i, (i = x.hb ∨ i = x.ch ∨ i = x.gb ∨ i = x.kb ∨ i = x.xb) → ∀ M', m = some M' → i ≠ M' := by
    intro x hx i hi M' hM' e
    rcases h.maps with ⟨e1, _⟩ | ⟨M2, e1, hM2⟩
    · rw [e1] at hM'; cases hM'
    · rw [e1] at hM'; cases hM'
      have hr := h.recs x hx
      rcases hi with e2 | e2 | e2 | e2 | e2
      · exact hM2.ne_blk hr.hold (e2.symm.trans e)
      · obtain ⟨es, c, hes, _⟩ := hM2; have := hr.chan; rw [← e2, e, hes] at this; cases this
      · exact hM2.ne_blk hr.gbox (e2.symm.trans e)
      · exact hM2.ne_blk hr.kbox (e2.symm.trans e)
      · exact hM2.ne_blk hr.xbox (e2.symm.trans e)
  have hkr := l.key
  have b4 : Blk w' (n0 + 1) 34 (arr fun j => .bool (has R j)) := (hold _ hs4 (by omega) (fun M' e e' => by have := h.mnew M' e; omega)).trans h.a4
  have b5 : Blk w' (n0 + 1 + 1) 36 (arr (hp R)) := (hold _ hs5 (by omega) (fun M' e e' => by have := h.mnew M' e; omega)).trans h.a5
  have b6 : Blk w' (n0 + 1 + 1 + 1) 38 (arr (uf R)) := (hold _ hs6 (by omega) (fun M' e e' => by have := h.mnew M' e; omega)).trans h.a6
  have hnr : has R r.k = false := by rw [hkr]; exact hn
  refine ⟨?_, .inr ⟨M, rfl, l.map.same (hup M hMn)⟩, fun M' e => by cases e; exact hMn, ?_, ?_, ?_, ?_, ?_, ?_, ?_, ?_, ?_, ?_⟩
  · obtain ⟨q, hB⟩ := l.grp
    exact ⟨q, ((hB.setOther (by show n0 ≠ n0 + 1; omega) _).setOther (by show n0 ≠ n0 + 1 + 1; omega) _).setOther (by show n0 ≠ n0 + 1 + 1 + 1; omega) _⟩
  · intro x hx
    rcases List.mem_append.1 hx with hx | hx
    · exact (h.recs x hx).same fun i hi => (hup i (h.rnew x hx i hi)).trans (hold i ((h.recs x hx).lt i hi) (by have := h.rnew x hx i hi; omega) (hrm x hx i hi))
    · obtain rfl := List.mem_singleton.1 hx
      exact l.recAt.same fun i hi => hup i (by have := l.new i hi; omega)
  · intro x hx
    rcases List.mem_append.1 hx with hx | hx
    · exact h.keys x hx
    · obtain rfl := List.mem_singleton.1 hx; omega
  · intro x hx i hi
    rcases List.mem_append.1 hx with hx | hx
    · exact h.rnew x hx i hi
    · obtain rfl := List.mem_singleton.1 hx
      have := l.new i hi; omega
  · refine List.pairwise_append.2 ⟨h.kdis, List.pairwise_singleton .., fun x hx y hy => ?_⟩
    obtain rfl := List.mem_singleton.1 hy
    exact none_of hnr x hx
  · refine List.pairwise_append.2 ⟨h.hdis, List.pairwise_singleton .., fun x hx y hy => ?_⟩
    obtain rfl := List.mem_singleton.1 hy
    have h1 := (h.recs x hx).lt x.hb (.inl rfl)
    have h2 := l.new y.hb (.inl rfl)
    omega
  · refine List.pairwise_append.2 ⟨h.cdis, List.pairwise_singleton .., fun x hx y hy => ?_⟩
    obtain rfl := List.mem_singleton.1 hy
    have h1 := (h.recs x hx).lt x.ch (.inr (.inl rfl))
    have h2 := l.new y.ch (.inr (.inl rfl))
    omega
  · have e := arr_set (fun j => .bool (has R j)) (fun j => .bool (has (R ++ [r]) j)) hk (.bool true) (by simp [has_append, hkr]) (fun j hj hne => by
      have : (r.k == j) = false := by simp; omega
      simp [has_append, this])
    have := b4.set k (.bool true)
    rw [e] at this
    exact (this.setOther (by show n0 + 1 ≠ n0 + 1 + 1; omega) _).setOther (by show n0 + 1 ≠ n0 + 1 + 1 + 1; omega) _
  · have e := arr_set (hp R) (hp (R ++ [r])) hk (ptr r.hb) (by rw [← hkr, hp, rec?_append_eq hnr]) (fun j hj hne => by rw [hp, hp, rec?_append_ne (by omega)])
    have := (b5.setOther (p := ⟨n0 + 1, k, none⟩) (by show n0 + 1 + 1 ≠ n0 + 1; omega) (.bool true)).set k (ptr r.hb)
    rw [e] at this
    exact this.setOther (by show n0 + 1 + 1 ≠ n0 + 1 + 1 + 1; omega) _
  · have e := arr_set (uf R) (uf (R ++ [r])) hk (unl r) (by rw [← hkr, uf, rec?_append_eq hnr]) (fun j hj hne => by rw [uf, uf, rec?_append_ne (by omega)])
    have := ((b6.setOther (p := ⟨n0 + 1, k, none⟩) (by show n0 + 1 + 1 + 1 ≠ n0 + 1; omega) (.bool true)).setOther (p := ⟨n0 + 1 + 1, k, none⟩) (by show n0 + 1 + 1 + 1 ≠ n0 + 1 + 1; omega) (ptr r.hb)).set k (unl r)
    rw [e] at this
    exact this
  · refine (((h.below.trans (l.keeps.below (by omega) ?_)).setCell (by show n0 ≤ n0 + 1; omega) _).setCell (by show n0 ≤ n0 + 1 + 1; omega) _).setCell (by show n0 ≤ n0 + 1 + 1 + 1; omega) _
    intro x hx
    rcases List.mem_cons.1 hx with rfl | hx
    · exact Nat.le_refl _
    · have := h.mnew x (by cases m with | none => simp at hx | some M' => simp at hx; rw [hx]); omega

theorem dis_mid {α : Type} {f : Rec → α} {R1 R2 : List Rec} {r : Rec} (h : (R1 ++ r :: R2).Pairwise fun a b => f a ≠ f b) : ∀ x ∈ R1 ++ R2, f x ≠ f r := by
  obtain ⟨h1, h2, h3⟩ := List.pairwise_append.1 h
  intro x hx
  rcases List.mem_append.1 hx with hx | hx
  · exact h3 x hx r (List.mem_cons_self ..)
  · exact Ne.symm ((List.pairwise_cons.1 h2).1 x hx)
theorem mem_mid {R1 R2 : List Rec} {r x : Rec} (h : x ∈ R1 ++ R2) : x ∈ R1 ++ r :: R2 := by
  rcases List.mem_append.1 h with h | h
  · exact List.mem_append_left _ h
  · exact List.mem_append_right _ (List.mem_cons_of_mem _ h)
theorem sub_mid (R1 R2 : List Rec) (r : Rec) : (R1 ++ R2).Sublist (R1 ++ r :: R2) := List.Sublist.append (List.Sublist.refl _) (List.sublist_cons_self ..)

/-- The unlock function has given a key back; the law has noted it. -/
theorem Inv.unlocked {w wr w' : World} {n0 M : Nat} {R1 R2 : List Rec} {r : Rec} {s : Int} (h : Inv w n0 wr (R1 ++ r :: R2) (some M)) (l : Unlocked wr n0 M R1 R2 r s w') :
    Inv w n0 (((w'.setCell ⟨n0 + 1, r.k, none⟩ (.bool false)).setCell ⟨n0 + 1 + 1, r.k, none⟩ (.pointer none)).setCell ⟨n0 + 1 + 1 + 1, r.k, none⟩ .nilFunc) (R1 ++ R2) (some M) := by
  have hmem : r ∈ R1 ++ r :: R2 := List.mem_append_right _ (List.mem_cons_self ..)
  have hk := h.keys r hmem
  have hs4 := h.a4.lt
  have hs5 := h.a5.lt
  have hs6 := h.a6.lt
  have hsz := l.keeps.size
  have hMn := h.mnew M rfl
  have hrn := h.rnew r hmem
  have hhb := hrn r.hb (.inl rfl)
  have hcb := hrn r.ch (.inr (.inl rfl))
  have hM2 : MapAt wr M (R1 ++ r :: R2) := by
    rcases h.maps with ⟨e, _⟩ | ⟨M', e, hM⟩
    · cases e
    · cases e; exact hM
  have hup : ∀ i, n0 + 4 ≤ i → (((w'.setCell ⟨n0 + 1, r.k, none⟩ (.bool false)).setCell ⟨n0 + 1 + 1, r.k, none⟩ (.pointer none)).setCell ⟨n0 + 1 + 1 + 1, r.k, none⟩ .nilFunc).heap[i]? = w'.heap[i]? := fun i hi => by
    rw [Below.heap_setCell _ _ _ _ (by show i ≠ n0 + 1 + 1 + 1; omega), Below.heap_setCell _ _ _ _ (by show i ≠ n0 + 1 + 1; omega), Below.heap_setCell _ _ _ _ (by show i ≠ n0 + 1; omega)]
  have hold : ∀ i, i < wr.heap.size → i ≠ n0 → i ≠ M → i ≠ r.hb → i ≠ r.ch → w'.heap[i]? = wr.heap[i]? := fun i hi h1 h2 h3 h4 => l.keeps.block i hi (by simp [h1, h2, h3, h4])
  have b4 : Blk w' (n0 + 1) 34 (arr fun j => .bool (has (R1 ++ r :: R2) j)) := (hold _ hs4 (by omega) (by omega) (by omega) (by omega)).trans h.a4
  have b5 : Blk w' (n0 + 1 + 1) 36 (arr (hp (R1 ++ r :: R2))) := (hold _ hs5 (by omega) (by omega) (by omega) (by omega)).trans h.a5
  have b6 : Blk w' (n0 + 1 + 1 + 1) 38 (arr (uf (R1 ++ r :: R2))) := (hold _ hs6 (by omega) (by omega) (by omega) (by omega)).trans h.a6
  have hkd := dis_mid (f := (·.k)) h.kdis
  have hno : has (R1 ++ R2) r.k = false := by
    cases hh : has (R1 ++ R2) r.k
    · rfl
    · obtain ⟨A, x, B, e, hx, _⟩ := split_of hh
      exact absurd hx (hkd x (by rw [e]; exact List.mem_append_right _ (List.mem_cons_self ..)))
  have rr := h.recs r hmem
  refine ⟨?_, .inr ⟨M, rfl, l.map.same (hup M hMn)⟩, fun M' e => by cases e; exact hMn, ?_, fun x hx => h.keys x (mem_mid hx), fun x hx => h.rnew x (mem_mid hx), h.kdis.sublist (sub_mid ..), h.hdis.sublist (sub_mid ..), h.cdis.sublist (sub_mid ..), ?_, ?_, ?_, ?_⟩
  · obtain ⟨q, hB⟩ := l.grp
    exact ⟨q, ((hB.setOther (by show n0 ≠ n0 + 1; omega) _).setOther (by show n0 ≠ n0 + 1 + 1; omega) _).setOther (by show n0 ≠ n0 + 1 + 1 + 1; omega) _⟩
  · intro x hx
    have rx := h.recs x (mem_mid hx)
    have hxn := h.rnew x (mem_mid hx)
    have dh := dis_mid (f := (·.hb)) h.hdis x hx
    have dc := dis_mid (f := (·.ch)) h.cdis x hx
    refine rx.same fun i hi => (hup i (hxn i hi)).trans (hold i (rx.lt i hi) (by have := hxn i hi; omega) ?_ ?_ ?_)
    · rcases hi with e | e | e | e | e
      · exact e ▸ hM2.ne_blk rx.hold
      · intro e'; obtain ⟨es, c, hes, _⟩ := hM2; have := rx.chan; rw [← e, e', hes] at this; cases this
      · exact e ▸ hM2.ne_blk rx.gbox
      · exact e ▸ hM2.ne_blk rx.kbox
      · exact e ▸ hM2.ne_blk rx.xbox
    · rcases hi with e | e | e | e | e
      · exact e ▸ dh
      · intro e'; have := rx.chan; rw [← e, e', rr.hold] at this; cases this
      · intro e'; have := rx.gbox; rw [Blk, ← e, e', rr.hold] at this; cases this
      · intro e'; have := rx.kbox; rw [Blk, ← e, e', rr.hold] at this; cases this
      · intro e'; have := rx.xbox; rw [Blk, ← e, e', rr.hold] at this; cases this
    · rcases hi with e | e | e | e | e
      · intro e'; have := rx.hold; rw [Blk, ← e, e', rr.chan] at this; cases this
      · exact e ▸ dc
      · intro e'; have := rx.gbox; rw [Blk, ← e, e', rr.chan] at this; cases this
      · intro e'; have := rx.kbox; rw [Blk, ← e, e', rr.chan] at this; cases this
      · intro e'; have := rx.xbox; rw [Blk, ← e, e', rr.chan] at this; cases this
  · have e := arr_set (fun j => .bool (has (R1 ++ r :: R2) j)) (fun j => .bool (has (R1 ++ R2) j)) hk (.bool false) (by simp [hno]) (fun j hj hne => by rw [has_del (r := r) (by omega)])
    have := b4.set r.k (.bool false)
    rw [e] at this
    exact (this.setOther (by show n0 + 1 ≠ n0 + 1 + 1; omega) _).setOther (by show n0 + 1 ≠ n0 + 1 + 1 + 1; omega) _
  · have e := arr_set (hp (R1 ++ r :: R2)) (hp (R1 ++ R2)) hk (.pointer none) (by rw [hp, rec?_none hno]) (fun j hj hne => by rw [hp, hp, rec?_del (r := r) (by omega)])
    have := (b5.setOther (p := ⟨n0 + 1, r.k, none⟩) (by show n0 + 1 + 1 ≠ n0 + 1; omega) (.bool false)).set r.k (.pointer none)
    rw [e] at this
    exact this.setOther (by show n0 + 1 + 1 ≠ n0 + 1 + 1 + 1; omega) _
  · have e := arr_set (uf (R1 ++ r :: R2)) (uf (R1 ++ R2)) hk .nilFunc (by rw [uf, rec?_none hno]) (fun j hj hne => by rw [uf, uf, rec?_del (r := r) (by omega)])
    have := ((b6.setOther (p := ⟨n0 + 1, r.k, none⟩) (by show n0 + 1 + 1 + 1 ≠ n0 + 1; omega) (.bool false)).setOther (p := ⟨n0 + 1 + 1, r.k, none⟩) (by show n0 + 1 + 1 + 1 ≠ n0 + 1 + 1; omega) (.pointer none)).set r.k .nilFunc
    rw [e] at this
    exact this
  · refine (((h.below.trans (l.keeps.below (by omega) ?_)).setCell (by show n0 ≤ n0 + 1; omega) _).setCell (by show n0 ≤ n0 + 1 + 1; omega) _).setCell (by show n0 ≤ n0 + 1 + 1 + 1; omega) _
    intro x hx
    simp at hx
    rcases hx with rfl | rfl | rfl | rfl <;> omega
end Go.Proofs.Ybulkecyw
