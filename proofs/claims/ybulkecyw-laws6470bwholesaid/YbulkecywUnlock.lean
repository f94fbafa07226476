/-
  LawS6470BWhole: the walk of the function that Group.Lock hands back.
-/
import Derived.Test.YbulkecywLock
namespace Go.Proofs.Ybulkecyw
open Go.RowKit Go.MuLone
set_option linter.unusedSimpArgs false
set_option linter.unusedVariables false
/-- What the unlock function leaves. -/
structure Unlocked (w : World) (G M : Nat) (R1 R2 : List Rec) (r : Rec) (s : Int) (w' : World) : Prop where
  grp : GroupAt w' G (some M)
  map : MapAt w' M (R1 ++ R2)
  hold : Blk w' r.hb 46 #[.chan (some r.ch), .int .i64 s]
  keeps : Keeps w.heap.size [G, M, r.hb, r.ch] w w'

set_option maxHeartbeats 1000000 in
theorem unlock (G M : Nat) (R1 R2 : List Rec) (r : Rec) (s : Int) (w : World) (h1 : ∀ r' ∈ R1, r'.k ≠ r.k) (hG : GroupAt w G (some M)) (hM : MapAt w M (R1 ++ r :: R2)) (hr : RecAt w G r) :
    Calls Yba.prog 8 #[.int .i64 s, ptr r.gb, ptr r.kb, ptr r.xb] w fun e w' => e = .returned (.tuple #[]) ∧ Unlocked w G M R1 R2 r s w' := by
  obtain ⟨q, hB⟩ := hG
  have hGM := hM.ne_blk hB
  have hGg : r.gb ≠ G := fun e => by have := hr.gbox; rw [Blk, e, hB] at this; cases this
  have hGk : r.kb ≠ G := fun e => by have := hr.kbox; rw [Blk, e, hB] at this; cases this
  have hGx : r.xb ≠ G := fun e => by have := hr.xbox; rw [Blk, e, hB] at this; cases this
  have hGh : r.hb ≠ G := fun e => by have := hr.hold; rw [Blk, e, hB] at this; cases this
  have hGc : r.ch ≠ G := fun e => by have := hr.chan; rw [e, hB] at this; cases this
  obtain ⟨U, hU⟩ : ∃ U, U = w.setCell ⟨G, 0, none⟩ (.int .i32 1) := ⟨_, rfl⟩
  have u1 : Blk U r.gb 23 #[ptr G] := by rw [hU]; exact hr.gbox.setOther hGg _
  have u2 : Blk U r.kb 3 #[.int .i64 (r.k : Int)] := by rw [hU]; exact hr.kbox.setOther hGk _
  have u3 : Blk U r.xb 35 #[ptr r.hb] := by rw [hU]; exact hr.xbox.setOther hGx _
  have u4 : Blk U r.hb 46 #[.chan (some r.ch), .int .i64 0] := by rw [hU]; exact hr.hold.setOther hGh _
  have u5 : U.heap[r.ch]? = some (.chan 0 #[] false 0 0 false) := by rw [hU, Below.heap_setCell _ _ _ _ hGc]; exact hr.chan
  have u6 : Blk U G 33 #[.int .i32 1, .int .u32 q, .map (some M)] := by rw [hU]; exact hB.set 0 _
  have u7 : MapAt U M (R1 ++ r :: R2) := hM.same (by rw [hU]; exact Below.heap_setCell _ _ _ _ (Ne.symm hGM))
  have u8 : Keeps w.heap.size [G, M, r.hb, r.ch] w U := by rw [hU]; exact (Keeps.refl _ _ _).setCell (.inl (by simp)) _
  have c0 : w.cell? ⟨G, 0, none⟩ = some (.int .i32 0) := hB.cell 0
  have f0 := hB.frozen 0
  have g0 : w.cell? ⟨r.gb, 0, none⟩ = some (ptr G) := hr.gbox.cell 0
  have g1 : U.cell? ⟨r.gb, 0, none⟩ = some (ptr G) := u1.cell 0
  have g2 : U.cell? ⟨G, 2, none⟩ = some (.map (some M)) := u6.cell 2
  have g3 : U.cell? ⟨r.kb, 0, none⟩ = some (.int .i64 (r.k : Int)) := u2.cell 0
  go_enter Yba.func8, Yba.ntmps8
  go_wp2_with fail
  refine (lock_free Yba.muLib ⟨G, 0, none⟩ _ c0 f0).mono ?_
  rw [← hU]
  rintro e w' ⟨rfl, hw'⟩
  obtain rfl : U = w' := hw'.symm
  clear c0 f0 g0 hU
  have hMg : r.gb ≠ M := hM.ne_blk hr.gbox
  have hMx : r.xb ≠ M := hM.ne_blk hr.xbox
  have hMh : r.hb ≠ M := hM.ne_blk hr.hold
  have hMc : r.ch ≠ M := fun e => by obtain ⟨es, cl, hes, _⟩ := hM; have := hr.chan; rw [e, hes] at this; cases this
  have hch : r.ch ≠ r.hb := fun e => by have := hr.chan; rw [e, hr.hold] at this; cases this
  have hxh : r.xb ≠ r.hb := fun e => by have := hr.xbox; rw [Blk, e, hr.hold] at this; cases this
  obtain ⟨o, hdel, v7⟩ := run_delete U.drew M r.k R1 R2 r rfl h1 u7
  obtain ⟨X, hX⟩ : ∃ X, X = U.drew.putObj M o := ⟨_, rfl⟩
  rw [← hX] at hdel v7
  have v1 : Blk X r.gb 23 #[ptr G] := by rw [hX]; exact Blk.putOther (w := U.drew) u1 hMg _
  have v3 : Blk X r.xb 35 #[ptr r.hb] := by rw [hX]; exact Blk.putOther (w := U.drew) u3 hMx _
  have v4 : Blk X r.hb 46 #[.chan (some r.ch), .int .i64 0] := by rw [hX]; exact Blk.putOther (w := U.drew) u4 hMh _
  have v5 : X.heap[r.ch]? = some (.chan 0 #[] false 0 0 false) := by rw [hX]; exact (World.putObj_heap_other (w := U.drew) hMc).trans u5
  have v6 : Blk X G 33 #[.int .i32 1, .int .u32 q, .map (some M)] := by rw [hX]; exact Blk.putOther (w := U.drew) u6 hGM _
  have v8 : Keeps w.heap.size [G, M, r.hb, r.ch] w X := by rw [hX]; exact (u8.drewN 1).putObj (.inl (by simp)) _
  obtain ⟨Y, hY⟩ : ∃ Y, Y = (X.setCell ⟨G, 0, none⟩ (.int .i32 0)).setCell ⟨r.hb, 1, none⟩ (.int .i64 s) := ⟨_, rfl⟩
  have y4 : Blk Y r.hb 46 #[.chan (some r.ch), .int .i64 s] := by rw [hY]; exact (v4.setOther hGh _).set 1 _
  have y5 : Y.heap[r.ch]? = some (.chan 0 #[] false 0 0 false) := by rw [hY, Below.heap_setCell _ _ _ _ hch, Below.heap_setCell _ _ _ _ hGc]; exact v5
  have y6 : Blk Y G 33 #[.int .i32 0, .int .u32 q, .map (some M)] := by rw [hY]; exact (v6.set 0 _).setOther (Ne.symm hGh) _
  have y3 : Blk Y r.xb 35 #[ptr r.hb] := by rw [hY]; exact (v3.setOther hGx _).setOther hxh _
  have y7 : MapAt Y M (R1 ++ R2) := v7.same (by rw [hY, Below.heap_setCell _ _ _ _ (Ne.symm hMh), Below.heap_setCell _ _ _ _ (Ne.symm hGM)])
  have y8 : Keeps w.heap.size [G, M, r.hb, r.ch] w Y := by rw [hY]; exact (v8.setCell (.inl (by simp)) _).setCell (.inl (by simp)) _
  have hcl := run_close Y 0 r.ch y5
  have HP : Hid (Unlocked w G M R1 R2 r s (Y.putObj r.ch (.chan 0 #[] true 0 0 false))) :=
    ⟨⟨q, y6.putOther (Ne.symm hGc) _⟩, y7.same (World.putObj_heap_other (Ne.symm hMc)), y4.putOther (Ne.symm hch) _, y8.putObj (.inl (by simp)) _⟩
  rw [hY] at hcl HP
  have l0 := v3.cell 0
  have l1 := v4.cell 0
  simp at l0 l1
  have j1 := v1.cell 0
  have j2 := v6.cell 0
  have j3 := v6.frozen 0
  have j4 : (X.setCell ⟨G, 0, none⟩ (.int .i32 0)).cell? ⟨r.xb, 0, none⟩ = some (ptr r.hb) := (v3.setOther hGx _).cell 0
  have j5 : (X.setCell ⟨G, 0, none⟩ (.int .i32 0)).cell? ⟨r.hb, 1, none⟩ = some (.int .i64 0) := (v4.setOther hGh _).cell 1
  have j6 : (X.setCell ⟨G, 0, none⟩ (.int .i32 0)).frozen? ⟨r.hb, 1, none⟩ = false := (v4.setOther hGh _).frozen 1
  simp at j1
  clear hX hY u1 u2 u3 u4 u5 u6 u7 u8 v1 v3 v4 v5 v6 v7 v8 y3 y4 y5 y6 y7 y8 hr hM hB h1
  go_wp2
  go_region
  go_wp2_with fail
  refine (unlock_held Yba.muLib ⟨G, 0, none⟩ _ ?_ ?_).mono ?_
  · exact j2
  · exact j3
  rintro e w' ⟨rfl, rfl⟩
  clear j1 j2 j3 hdel
  go_wp2
  go_end0
  exact ⟨rfl, HP.out⟩
end Go.Proofs.Ybulkecyw
