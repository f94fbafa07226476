/-
  LawS6470BWhole: the two calls as the law's loop sees them: what holds behind Lock (the key free) and behind the unlock function.
-/
import Derived.Test.YbulkecywOps
namespace Go.Proofs.Ybulkecyw
open Go.RowKit
set_option linter.unusedVariables false
theorem Maps.len {w : World} {m : Option Nat} {R : List Rec} (h : Maps w m R) (ty : TypeId) : (Builtin.len_ #[31] ty #[.map m]).run Yba.prog w = .ok (.int .i64 (R.length : Int)) w := by
  rcases h with ⟨rfl, rfl⟩ | ⟨M, rfl, hM⟩
  · exact run_len_nil w ty
  · exact run_len w ty M R hM
theorem hp_mid {R1 R2 : List Rec} {r : Rec} {k : Nat} (hrk : r.k = k) (h1 : ∀ x ∈ R1, x.k ≠ k) : hp (R1 ++ r :: R2) k = .pointer (some ⟨r.hb, 0, none⟩) := by
  subst hrk; simp [hp, rec?_mid h1, ptr]
theorem uf_mid {R1 R2 : List Rec} {r : Rec} {k : Nat} (hrk : r.k = k) (h1 : ∀ x ∈ R1, x.k ≠ k) : uf (R1 ++ r :: R2) k = .func (.func 8) #[] #[.pointer (some ⟨r.gb, 0, none⟩), .pointer (some ⟨r.kb, 0, none⟩), .pointer (some ⟨r.xb, 0, none⟩)] := by
  subst hrk; simp [uf, rec?_mid h1, unl, ptr]
theorem Inv.drew {w wr : World} {n0 : Nat} {R : List Rec} {m : Option Nat} (h : Inv w n0 wr R m) : Inv w n0 wr.drew R m := h.drewN 1
theorem Blk.drew {w : World} {b : Nat} {t : TypeId} {cs : Array Value} (h : Blk w b t cs) : Blk w.drew b t cs := h
theorem Blk.ne {w : World} {a b : Nat} {ta tb : TypeId} {ca cb : Array Value} (ha : Blk w a ta ca) (hb : Blk w b tb cb) (ht : ta ≠ tb) : a ≠ b := fun e => by
  subst e; rw [Blk, ha] at hb; injection hb with hb; injection hb with _ h2 _; exact ht h2
theorem lock_new (G : Nat) (m : Option Nat) (R : List Rec) (k : Nat) (w : World) (h1 : ∀ r' ∈ R, r'.k ≠ k) (hG : GroupAt w G m) (hR : Maps w m R) :
    Calls Yba.prog 4 #[ptr G, .int .i64 (k : Int)] w fun e w' => ∃ r M', e = .returned (.tuple #[.func (.func 8) #[] #[ptr r.gb, ptr r.kb, ptr r.xb], .pointer none]) ∧ Locked w G m R k r M' w' := by
  rcases hR with ⟨rfl, rfl⟩ | ⟨M, rfl, hM⟩
  · exact lock_new_none G k w hG
  · exact lock_new_some G M R k w h1 hG hM
/-- What holds behind Lock, the key free. -/
structure AfterL (w : World) (n0 k : Nat) (R : List Rec) (r : Rec) (M : Nat) (V : World) : Prop where
  grp : GroupAt V n0 (some M)
  key : r.k = k
  free : has R k = false
  mp : MapAt V M (R ++ [r])
  hold : Blk V r.hb 46 #[.chan (some r.ch), .int .i64 0]
  a4 : Blk V (n0 + 1) 34 (arr fun j => .bool (has R j))
  a5 : Blk V (n0 + 1 + 1) 36 (arr (hp R))
  a6 : Blk V (n0 + 1 + 1 + 1) 38 (arr (uf R))
  olds : ∀ j, has R j = true → ∃ b, hp R j = .pointer (some ⟨b, 0, none⟩) ∧ b ≠ r.hb ∧ ∃ cs, Blk V b 46 cs
  fin : Inv w n0 (((V.setCell ⟨n0 + 1, k, none⟩ (.bool true)).setCell ⟨n0 + 1 + 1, k, none⟩ (ptr r.hb)).setCell ⟨n0 + 1 + 1 + 1, k, none⟩ (unl r)) (R ++ [r]) (some M)
theorem afterL {w V V2 : World} {n0 k M : Nat} {R : List Rec} {m : Option Nat} {r : Rec} (h : Inv w n0 V R m) (hk : k < 4) (hn : has R k = false) (l : Locked V n0 m R k r M V2) : AfterL w n0 k R r M V2 := by
  have out : ∀ {b : Nat} {t : TypeId} {cs : Array Value}, b ≠ n0 → Blk V b t cs → Blk V2 b t cs := by
    intro b t cs hne hB
    refine hB.keeps l.keeps hB.lt ?_
    intro hm
    rcases List.mem_cons.1 hm with e | e
    · exact hne e
    · rcases h.maps with ⟨rfl, _⟩ | ⟨M', rfl, hM⟩
      · simp at e
      · simp at e
        exact hM.ne_blk hB e
  refine ⟨l.grp, l.key, hn, l.map, l.recAt.hold, out (by omega) h.a4, out (by omega) h.a5, out (by omega) h.a6, ?_, h.locked hk hn l⟩
  · intro j hj
    obtain ⟨R1, r', R2, rfl, e1, e2⟩ := split_of hj
    have hmem : r' ∈ R1 ++ r' :: R2 := List.mem_append_right _ (List.mem_cons_self ..)
    have hB := (h.recs r' hmem).hold
    have hnew := h.rnew r' hmem r'.hb (.inl rfl)
    have hlt := hB.lt
    have := l.new r.hb (.inl rfl)
    exact ⟨r'.hb, hp_mid e1 e2, by omega, _, out (by omega) hB⟩
theorem AfterL.drewN {w V : World} {n0 k M : Nat} {R : List Rec} {r : Rec} (h : AfterL w n0 k R r M V) (q : Nat) : AfterL w n0 k R r M (V.drewN q) :=
  ⟨h.grp, h.key, h.free, h.mp, h.hold, h.a4, h.a5, h.a6, h.olds, h.fin.drewN q⟩
theorem AfterL.look {w V : World} {n0 k M : Nat} {R : List Rec} {r : Rec} (h : AfterL w n0 k R r M V) : (Instr.lookup 31 (.map (some M)) (.int .i64 (k : Int)) true).run Yba.prog V = .ok (.tuple #[.pointer (some ⟨r.hb, 0, none⟩), .bool true]) V :=
  run_lookup_some V M k R [] r h.key (none_of h.free) h.mp
theorem AfterL.c4 {w V : World} {n0 k M : Nat} {R : List Rec} {r : Rec} (h : AfterL w n0 k R r M V) {j : Nat} (hj : j < 4) : V.cell? ⟨n0 + 1, j, none⟩ = some (.bool (has R j)) := (h.a4.cell j).trans (arr_get _ hj)
theorem AfterL.c5 {w V : World} {n0 k M : Nat} {R : List Rec} {r : Rec} (h : AfterL w n0 k R r M V) {j : Nat} (hj : j < 4) : V.cell? ⟨n0 + 1 + 1, j, none⟩ = some (hp R j) := (h.a5.cell j).trans (arr_get _ hj)
theorem AfterL.c6 {w V : World} {n0 k M : Nat} {R : List Rec} {r : Rec} (h : AfterL w n0 k R r M V) {j : Nat} (hj : j < 4) : V.cell? ⟨n0 + 1 + 1 + 1, j, none⟩ = some (uf R j) := (h.a6.cell j).trans (arr_get _ hj)
theorem lockA {w : World} (n0 k : Nat) (R : List Rec) (m : Option Nat) (V : World) (h : Inv w n0 V R m) (hk : k < 4) (hn : has R k = false) :
    Calls Yba.prog 4 #[.pointer (some ⟨n0, 0, none⟩), .int .i64 (k : Int)] V fun e V2 => ∃ r M, e = .returned (.tuple #[.func (.func 8) #[] #[.pointer (some ⟨r.gb, 0, none⟩), .pointer (some ⟨r.kb, 0, none⟩), .pointer (some ⟨r.xb, 0, none⟩)], .pointer none]) ∧ AfterL w n0 k R r M V2 :=
  (lock_new n0 m R k V (none_of hn) h.grp h.maps).mono fun e V2 ⟨r, M, he, l⟩ => ⟨r, M, he, afterL h hk hn l⟩
/-- What holds behind the unlock function. -/
structure AfterU (w : World) (n0 : Nat) (R1 R2 : List Rec) (r : Rec) (M : Nat) (s : Int) (sb : Nat) (cs : Array Value) (V : World) : Prop where
  grp : GroupAt V n0 (some M)
  look : ∀ q, ∃ v, (Instr.lookup 31 (.map (some M)) (.int .i64 (r.k : Int)) true).run Yba.prog (V.drewN q) = .ok (.tuple #[v, .bool false]) (V.drewN q)
  hold : Blk V r.hb 46 #[.chan (some r.ch), .int .i64 s]
  step : Blk V sb 40 cs
  a4 : Blk V (n0 + 1) 34 (arr fun j => .bool (has (R1 ++ r :: R2) j))
  a5 : Blk V (n0 + 1 + 1) 36 (arr (hp (R1 ++ r :: R2)))
  a6 : Blk V (n0 + 1 + 1 + 1) 38 (arr (uf (R1 ++ r :: R2)))
  fin : Inv w n0 (((V.setCell ⟨n0 + 1, r.k, none⟩ (.bool false)).setCell ⟨n0 + 1 + 1, r.k, none⟩ (.pointer none)).setCell ⟨n0 + 1 + 1 + 1, r.k, none⟩ .nilFunc) (R1 ++ R2) (some M)
theorem afterU {w V V2 : World} {n0 M : Nat} {R1 R2 : List Rec} {r : Rec} {s : Int} {sb : Nat} {cs : Array Value} (h : Inv w n0 V (R1 ++ r :: R2) (some M)) (l : Unlocked V n0 M R1 R2 r s V2) (hS : Blk V sb 40 cs) : AfterU w n0 R1 R2 r M s sb cs V2 := by
  have hmem : r ∈ R1 ++ r :: R2 := List.mem_append_right _ (List.mem_cons_self ..)
  have hM : MapAt V M (R1 ++ r :: R2) := by
    rcases h.maps with ⟨e, _⟩ | ⟨M', e, hM⟩
    · cases e
    · cases e; exact hM
  have hc := (h.recs r hmem).chan
  have out : ∀ {b : Nat} {t : TypeId} {cs : Array Value}, t ≠ 33 → t ≠ 46 → Blk V b t cs → Blk V2 b t cs := by
    intro b t cs h3 h4 hB
    refine hB.keeps l.keeps hB.lt ?_
    intro hm
    obtain ⟨q, hG⟩ := h.grp
    simp at hm
    rcases hm with e | e | e | e
    · exact hB.ne hG h3 e
    · exact hM.ne_blk hB e
    · exact hB.ne (h.recs r hmem).hold h4 e
    · subst e; rw [Blk, hc] at hB; cases hB
  have hno : ∀ x ∈ R1 ++ R2, x.k ≠ r.k := dis_mid h.kdis
  exact ⟨l.grp, fun q => ⟨_, run_lookup_none (V2.drewN q) M r.k (R1 ++ R2) hno l.map⟩, l.hold, out (by decide) (by decide) hS, out (by decide) (by decide) h.a4, out (by decide) (by decide) h.a5, out (by decide) (by decide) h.a6, h.unlocked l⟩
theorem unlockA {w : World} (n0 M : Nat) (R1 R2 : List Rec) (r : Rec) (s : Int) (sb : Nat) (cs : Array Value) (V : World) (h1 : ∀ r' ∈ R1, r'.k ≠ r.k) (h : Inv w n0 V (R1 ++ r :: R2) (some M)) (hS : Blk V sb 40 cs) :
    Calls Yba.prog 8 #[.int .i64 s, .pointer (some ⟨r.gb, 0, none⟩), .pointer (some ⟨r.kb, 0, none⟩), .pointer (some ⟨r.xb, 0, none⟩)] V fun e V2 => e = .returned (.tuple #[]) ∧ AfterU w n0 R1 R2 r M s sb cs V2 := by
  have hmem : r ∈ R1 ++ r :: R2 := List.mem_append_right _ (List.mem_cons_self ..)
  have hM : MapAt V M (R1 ++ r :: R2) := by
    rcases h.maps with ⟨e, _⟩ | ⟨M', e, hM⟩
    · cases e
    · cases e; exact hM
  exact (unlock n0 M R1 R2 r s V h1 h.grp hM (h.recs r hmem)).mono fun e V2 ⟨he, l⟩ => ⟨he, afterU h l hS⟩
end Go.Proofs.Ybulkecyw
