/-
  LawS6472BWhole: the walks of her three callees: Class.Property, slices.Clone and slices.Equal at []Property.
-/
import Derived.Test.YbulkeczyRows
import Derived.Test.YbulkeczyBPlain
import Derived.WalkLawsBesides
import Derived.WalkSpells
import Derived.Deep.QuietTactic
import Derived.BigQuiet
import Derived.Deep.LoopGhost
import Derived.Lib.Walk
import Derived.Lib.SliceRun
namespace Go.Proofs.Ybulkeczy
open Go.RowKit
set_option linter.unusedSimpArgs false
set_option linter.unusedVariables false
set_option maxHeartbeats 1000000 in
theorem property (o r : ByteArray) (b n c : Nat) (xs : List PC) (nm : ByteArray) (w : World) (hn : xs.length = n) (hmax : n ≤ 1048576) (hR : Row w b xs) (hb : b < w.heap.size) :
    Calls Yba.prog 8 #[.agg #[.string o, .string r, .slice (some ⟨b, 0, none⟩) n c], .string nm] w fun e w' =>
      e = .returned (.tuple #[((found xs nm).getD zeroPC).agg, .bool (found xs nm).isSome]) ∧ Below w.heap.size w w' := by
  have HN : Hid (xs.length = n) := hn
  have HR : Hid (Row w b xs) := hR
  clear hn hR
  go_enter Yba.func8, Yba.ntmps8
  go_wp2
  go_loopw [11] (fun i wr => ∃ k : Nat, k ≤ n ∧ i = .int .i64 k ∧ Hid (∀ j x, j < k → xs[j]? = some x → seq x.nm nm = false) ∧ Below w.heap.size w wr ∧ Quad wr (w.heap.size + 1) zeroPC ∧ w.heap.size + 1 < wr.heap.size) (fun i _ => n - (intOf i).toNat)
  case atStart =>
    refine ⟨0, Nat.zero_le _, rfl, fun j x h => absurd h (Nat.not_lt_zero _), ((Below.refl _ _).alloc (Nat.le_refl _) _).alloc (by simp) _, ?_, by simp⟩
    simp [Quad, zeroPC, go_sem]
  case round =>
    obtain ⟨k, hk, rfl, HF, hbl, ⟨⟨q0, q1, q2, q3⟩, f0, f1, f2, f3⟩, hsz⟩ := hrel
    by_cases hlt : k < n
    · obtain ⟨x, hx⟩ : ∃ x, xs[k]? = some x := ⟨xs[k]'(by have := HN.out; omega), by simp⟩
      obtain ⟨c0, c1, c2, c3⟩ := (HR.out.below hbl hb) k x hx
      have HX : Hid (xs[k]? = some x) := hx
      clear hx
      go_wp2
      · have hs : seq x.nm nm = true := ‹(x.nm.toList == nm.toList) = true›
        have hf := found_hit HX.out hs HF.out
        rw [hf]
        refine bodyPost_ret (v := .tuple #[x.agg, .bool true]) ?_ rfl ⟨rfl, ?_⟩
        · simp [results, Yba.results8, go_sem, PC.agg, q0, q1, q2, q3, f0, f1, f2, f3, hsz]
        · exact ((((hbl.setCell (Nat.le_succ _) _).setCell (Nat.le_succ _) _).setCell (Nat.le_succ _) _).setCell (Nat.le_succ _) _).alloc (by simp; omega) _
      · have hs : seq x.nm nm = false := ‹(x.nm.toList == nm.toList) = false›
        go_roundw
        case rel =>
          refine ⟨k + 1, by omega, by go_num, ?_, hbl.alloc (by omega) _, ?_, by simp; omega⟩
          · intro j y hj hy
            by_cases e : j = k
            · subst e
              rw [HX.out] at hy; cases hy; exact hs
            · exact HF.out j y (by omega) hy
          · exact Quad.below ⟨⟨q0, q1, q2, q3⟩, f0, f1, f2, f3⟩ ((Below.refl _ _).alloc (Nat.le_refl _) _) hsz
        case measure => simp [intOf]; omega
    · go_wp2
      have hf : found xs nm = none := found_miss fun j y hy => HF.out j y (by have := (List.getElem?_eq_some_iff.1 hy).1; have := HN.out; omega) hy
      rw [hf]
      refine bodyPost_ret (v := .tuple #[zeroPC.agg, .bool false]) ?_ rfl ⟨rfl, ?_⟩
      · simp [results, Yba.results8, go_sem, PC.agg, zeroPC, q0, q1, q2, q3, f0, f1, f2, f3, hsz]
      · exact (((hbl.setCell (Nat.le_succ _) _).setCell (Nat.le_succ _) _).setCell (Nat.le_succ _) _).setCell (Nat.le_succ _) _

set_option maxHeartbeats 400000 in
theorem property_nil (o r : ByteArray) (nm : ByteArray) (w : World) :
    Calls Yba.prog 8 #[.agg #[.string o, .string r, .slice none 0 0], .string nm] w fun e w' =>
      e = .returned (.tuple #[zeroPC.agg, .bool false]) ∧ Below w.heap.size w w' := by
  go_enter Yba.func8, Yba.ntmps8
  go_wp2
  go_loopw [11] (fun i wr => i = .int .i64 0 ∧ Below w.heap.size w wr ∧ Quad wr (w.heap.size + 1) zeroPC ∧ w.heap.size + 1 < wr.heap.size) (fun i _ => 0)
  case atStart =>
    refine ⟨rfl, ((Below.refl _ _).alloc (Nat.le_refl _) _).alloc (by simp) _, ?_, by simp⟩
    simp [Quad, zeroPC, go_sem]
  case round =>
    obtain ⟨rfl, hbl, ⟨⟨q0, q1, q2, q3⟩, f0, f1, f2, f3⟩, hsz⟩ := hrel
    go_wp2
    refine bodyPost_ret (v := .tuple #[zeroPC.agg, .bool false]) ?_ rfl ⟨rfl, ?_⟩
    · simp [results, Yba.results8, go_sem, PC.agg, zeroPC, q0, q1, q2, q3, f0, f1, f2, f3, hsz]
    · exact (((hbl.setCell (Nat.le_succ _) _).setCell (Nat.le_succ _) _).setCell (Nat.le_succ _) _).setCell (Nat.le_succ _) _

theorem info38 : ∃ i0 : TypeInfo, Yba.prog.info? 38 = some i0 ∧ i0.zero = some (.agg #[.string { data := #[] }, .string { data := #[] }, .pointer none, .string { data := #[] }]) ∧ i0.size = 4 ∧ i0.bytes = 56 :=
  ⟨(Yba.prog.info? 38).getD default, by kernel_rfl, by kernel_rfl, by kernel_rfl, by kernel_rfl⟩

set_option maxHeartbeats 2000000 in
set_option maxRecDepth 100000 in
/-- slices.Clone at []Property: the same cells in memory of the call's own. -/
theorem clone (b n c : Nat) (xs : List PC) (w : World) (hn : xs.length = n) (hmax : n ≤ 1048576) (hR : ∀ j u, (flat xs)[j]? = some u → w.cell? ⟨b, j, none⟩ = some u) (hb : b < w.heap.size) :
    Calls Yba.prog 7 #[.slice (some ⟨b, 0, none⟩) n c] w fun e w' => ∃ g cap, e = .returned (.slice (some ⟨g, 0, none⟩) n cap) ∧ w.heap.size ≤ g ∧ g < w'.heap.size ∧ Row w' g xs ∧ Below w.heap.size w w' := by
  obtain ⟨i0, hi, hz0, hz1, hz2⟩ := info38
  have q30 : ∀ (w : World) (a : Option Addr) (n c n' c' : Nat), (binOp .eql 30 (.slice a n c) (.slice none n' c')).run Yba.prog w = .ok (.bool a.isNone) w := fun w a n c n' c' => Lib.run_eql_slice_nil w _ _ a n c n' c' Yba.underlying30
  have hl : (flat xs).length = n * 4 := by rw [flat_length, hn]
  have HL : Hid ((flat xs).length = n * 4) := hl
  have HR : Hid (∀ j u, (flat xs)[j]? = some u → w.cell? ⟨b, j, none⟩ = some u) := hR
  have HI : Hid (Yba.prog.info? 38 = some i0) := hi
  clear hR hl hn hi
  go_enter Yba.func7, Yba.ntmps7
  go_wp2_with (at_builtin; refine wpList_append_own _ rfl _ _ 30 rfl w.heap.size 38 i0 _ 4 56 Yba.underlying30 HI.out hz0 hz1 hz2 (by rfl) (by omega) _ _ _ rfl (World.ownsRow_made w #[] 0 (Nat.le_refl _) (Nat.zero_le _) (by simp)) ⟨b, 0, none⟩ n c (flat xs) rfl ?qc1 ?qc2 ?qc3 ?qc4 ?qc5 ?qc6 ?_)
  case qc1 => exact HL.out
  case qc2 =>
    intro j u hj
    rw [Addr.add_lit, Nat.zero_add]
    exact Lib.cell?_alloc_some _ (HR.out j u hj)
  case qc3 => exact flat_one xs
  case qc4 => unfold maxLen; omega
  case qc5 => omega
  case qc6 => simp
  intro v' w1 hown hgrow hnil
  have H1 : Hid (w1.ownsRow w.heap.size 38 4 v' n (flat xs)) := hown
  have H2 : Hid (¬ v' = .slice none 0 0) := hnil
  clear hown hnil
  go_wp2
  go_ret
  have hown := H1.out
  rcases hown.2 with ⟨hv, _⟩ | ⟨g, cap, cur, hv, hg, hh, _, _, _, htk⟩
  · exact absurd hv H2.out
  · subst hv
    refine ⟨g, cap, rfl, hg, (hown.lt g rfl).2, Row.of_cells (fun j u hj => ?_), ((Below.refl _ w).alloc (Nat.le_refl _) _).grown hgrow (by simp) (by intro k hk; simp [Value.ownBlock] at hk; omega)⟩
    have hj' : j < n * 4 := by have := (List.getElem?_eq_some_iff.1 hj).1; have := HL.out; omega
    exact (hown.cellAt j hj').trans hj
set_option maxHeartbeats 400000 in
theorem clone_nil (w : World) :
    Calls Yba.prog 7 #[.slice none 0 0] w fun e w' => e = .returned (.slice none 0 0) ∧ w' = w := by
  have q30 : ∀ (w : World) (a : Option Addr) (n c n' c' : Nat), (binOp .eql 30 (.slice a n c) (.slice none n' c')).run Yba.prog w = .ok (.bool a.isNone) w := fun w a n c n' c' => Lib.run_eql_slice_nil w _ _ a n c n' c' Yba.underlying30
  go_enter Yba.func7, Yba.ntmps7
  go_wp2
  go_ret
  exact ⟨rfl, rfl⟩

theorem info33 : ∃ e j, Yba.prog.underlying 33 = some (.pointer e) ∧ Yba.prog.info? e = some j := ⟨Yba.prog.pointee 33, (Yba.prog.info? (Yba.prog.pointee 33)).getD default, by kernel_rfl, by kernel_rfl⟩
theorem eqPtr33 (w : World) (d : Nat) (p : Option Addr) : (Op.equalIn (d + 1) 33 (.pointer p) (.pointer p)).run Yba.prog w = .ok true w := by
  obtain ⟨e, j, he, hj⟩ := info33
  cases p <;> simp [Op.equalIn, run_underlying he, sizeOf, typeInfo, hj, sameAddr]
attribute [local go_sem] eqPtr33
theorem eqAgg38 (w : World) (a b : ByteArray) (p : Option Addr) (c : ByteArray) : (Op.equalIn 10000 38 (.agg #[.string a, .string b, .pointer p, .string c]) (.agg #[.string a, .string b, .pointer p, .string c])).run Yba.prog w = .ok true w := by
  simp [go_sem]
theorem eqlPC (w : World) (a b : ByteArray) (p : Option Addr) (c : ByteArray) : (binOp .eql 38 (.agg #[.string a, .string b, .pointer p, .string c]) (.agg #[.string a, .string b, .pointer p, .string c])).run Yba.prog w = .ok (.bool true) w := by
  rw [run_eql_struct, eqAgg38]; rfl
theorem neqPC (w : World) (a b : ByteArray) (p : Option Addr) (c : ByteArray) : (binOp .neq 38 (.agg #[.string a, .string b, .pointer p, .string c]) (.agg #[.string a, .string b, .pointer p, .string c])).run Yba.prog w = .ok (.bool false) w := by
  rw [run_neq_struct, eqAgg38]; rfl

set_option maxHeartbeats 1000000 in
/-- slices.Equal at two rows of the same Properties: true. -/
theorem equal (b g n c c' : Nat) (xs : List PC) (w : World) (hn : xs.length = n) (hmax : n ≤ 1048576) (hR : Row w b xs) (hR' : Row w g xs) :
    Calls Yba.prog 9 #[.slice (some ⟨b, 0, none⟩) n c, .slice (some ⟨g, 0, none⟩) n c'] w fun e w' => e = .returned (.bool true) ∧ ∃ q, w' = w.drewN q := by
  have HN : Hid (xs.length = n) := hn
  have HR : Hid (Row w b xs) := hR
  have HR' : Hid (Row w g xs) := hR'
  clear hn hR hR'
  have kne := neqPC
  go_enter Yba.func9, Yba.ntmps9
  go_wp2
  go_loopw [13] (fun i wr => ∃ k q : Nat, k ≤ n ∧ i = .int .i64 k ∧ wr = w.drewN q) (fun i _ => n - (intOf i).toNat)
  case atStart => exact ⟨0, 0, Nat.zero_le _, rfl, rfl⟩
  case round =>
    obtain ⟨k, q, hk, rfl, rfl⟩ := hrel
    by_cases hlt : k < n
    · obtain ⟨x, hx⟩ : ∃ x, xs[k]? = some x := ⟨xs[k]'(by have := HN.out; omega), by simp⟩
      obtain ⟨c0, c1, c2, c3⟩ := HR.out k x hx
      obtain ⟨d0, d1, d2, d3⟩ := HR'.out k x hx
      clear hx
      go_wp2
      go_quiet (fail)
      go_wp2
      go_roundw
      case rel => exact ⟨k + 1, _, by omega, by go_num, rfl⟩
      case measure => simp [intOf]; omega
    · go_wp2
      go_ret
      exact ⟨rfl, q, rfl⟩
set_option maxHeartbeats 400000 in
theorem equal_nil (w : World) :
    Calls Yba.prog 9 #[.slice none 0 0, .slice none 0 0] w fun e w' => e = .returned (.bool true) ∧ w' = w := by
  go_enter Yba.func9, Yba.ntmps9
  go_wp2
  go_loop [13] (fun i => i = .int .i64 0) (fun _ => 0)
  case atStart => rfl
  case round =>
    obtain rfl := hrel
    go_wp2
    go_ret
    exact ⟨rfl, rfl⟩
end Go.Proofs.Ybulkeczy
