/- A new builder of messages, walked. No condition but on its size. -/
import Derived.Test.YtegohkgmamnkdaaGreatFin
set_option linter.unusedVariables false
namespace Go.Proofs.YtegohkgmamnkdaaGreat.Msg
open Go.ChangeShapes Go.WideShapes Go.ChangeAt Go.RowKit
open Go.Proofs.YtegohkgmamnkdaaGreat.Dig Go.Proofs.YtegohkgmamnkdaaGreat.Mem Go.Proofs.YtegohkgmamnkdaaGreat.Rb

theorem poolGet (w : World) (n : Nat) (hn : n ≤ 1000000) :
    Calls Tryz.prog 205 #[.int .u8 0, .int .u64 (n : Int)] w fun e w' => e = .returned (.slice (some ⟨w.heap.size, 0, none⟩) n n) ∧ w' = w.alloc (.cells (bs (List.replicate n 0)).toArray 5) := by
  obtain ⟨i5, hi, hz0, hz1, hz2⟩ := info_parts info5
  go_enter Tryz.func205, Tryz.ntmps205
  go_wp2_with (at_make; refine wpList_make_row _ rfl _ _ 26 rfl 5 i5 (.int .u8 0) Tryz.underlying26 hi hz0 hz1 rfl .u64 .u64 n rfl rfl (by rw [hz2]; omega) (by omega) ?_; rw [made_bs])
  go_ret
  exact ⟨rfl, rfl⟩
theorem newBuffPool (w : World) : Calls Tryz.prog 13 #[] w fun e w' => e = .returned (.iface 48 (.int .u8 0)) ∧ w = w' := by
  go_enter Tryz.func13, Tryz.ntmps13
  go_wp2
  go_ret
  exact ⟨rfl, rfl⟩

theorem free_of_row {w : World} {B : Nat} {A : Array Value} {t : TypeId} (h : w.heap[B]? = some (.cells A t (0, 0))) (i : Nat) : w.frozen? ⟨B, i, none⟩ = false := by simp [World.frozen?, h]
/-- A builder of nothing. -/
def St0 (VT : Nat) : St := ⟨1, .slice none 0 0, 0, .slice (some ⟨VT, 0, none⟩) 0 16, false, false, .map none⟩
/-- What a new builder has made. -/
structure NewB (w w' : World) : Prop where
  row : w'.heap[w.heap.size]? = some (.cells ((St0 (w.heap.size + 2)).cells (w.heap.size + 1) 0 0 0) 95 (0, 0))
  vt : w'.heap[w.heap.size + 2]? = some (UO (List.replicate 16 0))
  bel : Below w.heap.size w w'
  size : w'.heap.size = w.heap.size + 3
set_option maxRecDepth 100000 in
set_option maxHeartbeats 1000000 in
theorem newBuilder (w : World) :
    Calls Tryz.prog 64 #[.int .i64 0] w fun e w' => e = .returned (.pointer (some ⟨w.heap.size, 0, none⟩)) ∧ NewB w w' := by
  obtain ⟨i5, hi, hz0, hz1, hz2⟩ := info_parts info5
  obtain ⟨iU, hiU, hu0, hu1, hu2⟩ := info_parts infoUO
  have hm : ∀ w, (Instr.makeSlice 92 (.int .i64 0) (.int .i64 16)).run Tryz.prog w = .ok (.slice (some ⟨w.heap.size, 0, none⟩) 0 16) (w.alloc (UO (List.replicate 16 0))) := fun w => by
    have hr := run_make (P := Tryz.prog) w 92 50 iU (.int .u32 0) Tryz.underlying92 hiU hu0 .i64 .i64 0 16 (by omega) (by omega) (by rw [hu2]; omega) (by omega)
    rw [hu1] at hr
    have e : madeCells (Value.cells (.int .u32 0)) ((16 : Int).toNat * 1) = (us (List.replicate 16 0)).toArray := made_us 16
    rw [e] at hr
    exact hr
  go_enter Tryz.func64, Tryz.ntmps64
  go_wp2_with (first
    | (at_make; refine wpList_make_row _ rfl _ _ 26 rfl 5 i5 (.int .u8 0) Tryz.underlying26 hi hz0 hz1 rfl .i64 .i64 0 rfl rfl (by rw [hz2]; omega) (by omega) ?_))
  go_ret
  refine ⟨rfl, ?_, ?_, ?_, by simp⟩
  · refine (Below.heap_alloc _ _ _ (by simp; omega)).trans ((Below.heap_alloc _ _ _ (by simp)).trans (heap_alloc_new _ _))
  · have h3 : ∀ (w1 : World) (o : Obj) (k : Nat), w1.heap.size = k → (w1.alloc o).heap[k]? = some o := fun w1 o k hk => by subst hk; exact heap_alloc_new _ _
    exact h3 _ _ _ (by simp)
  · exact (((Below.refl _ _).alloc (Nat.le_refl _) _).alloc (by simp) _).alloc (by simp; omega) _

set_option maxRecDepth 100000 in
set_option maxHeartbeats 1000000 in
theorem reset (w : World) (B g n VT : Nat) (h : w.heap[B]? = some (.cells ((St0 VT).cells g n n 0) 95 (0, 0))) (hn : n ≤ 100000) :
    Calls Tryz.prog 65 #[.pointer (some ⟨B, 0, none⟩)] w fun e w' => e = .returned (.tuple #[]) ∧ w'.heap[B]? = some (.cells ((St0 VT).cells g n n n) 95 (0, 0)) ∧ Wr [B] w w' := by
  have c0 : w.cell? ⟨B, 0, none⟩ = some (.slice (some ⟨g, 0, none⟩) n n) := by simp only [World.cell?, h]; rfl
  have d0 : ∀ m, (w.drewN m).cell? ⟨B, 0, none⟩ = some (.slice (some ⟨g, 0, none⟩) n n) := fun m => c0
  have g0 : ∀ m, (w.drewN m).frozen? ⟨B, 0, none⟩ = false := fun m => by
    have : (w.drewN m).heap[B]? = some (.cells ((St0 VT).cells g n n 0) 95 (0, 0)) := h
    simp only [World.frozen?, this]; simp
  have hnil : ∀ w, (binOp .neq 26 (.slice (some ⟨g, 0, none⟩) n n) (.slice none 0 0)).run Tryz.prog w = .ok (.bool true) w := fun w => by
    have := run_equal_slice_nil (P := Tryz.prog) w 26 5 (some ⟨g, 0, none⟩) n n Tryz.underlying26
    simp [binOp, this, Result.andThen]
  have hnil2 : ∀ w, (binOp .neq 92 (.slice (some ⟨VT, 0, none⟩) 0 16) (.slice none 0 0)).run Tryz.prog w = .ok (.bool true) w := fun w => by
    have := run_equal_slice_nil (P := Tryz.prog) w 92 50 (some ⟨VT, 0, none⟩) 0 16 Tryz.underlying92
    simp [binOp, this, Result.andThen]
  have hnil3 : ∀ w, (binOp .neq 92 (.slice none 0 0) (.slice none 0 0)).run Tryz.prog w = .ok (.bool false) w := fun w => by
    have := run_equal_slice_nil (P := Tryz.prog) w 92 50 none 0 0 Tryz.underlying92
    simp [binOp, this, Result.andThen]
  have C1 := cutHi (k := .i64) g n n n (Nat.le_refl _) (Nat.le_refl _)
  have C2 : ∀ w, (Instr.slice 92 (.slice (some ⟨VT, 0, none⟩) 0 16) none (some (.int .i64 0)) none).run Tryz.prog w = .ok (.slice (some ⟨VT, 0, none⟩) 0 16) w := cutV (k := .i64) VT 0 16 0 (by omega) (by omega)
  have H := Lib.hid h
  clear h
  go_enter Tryz.func65, Tryz.ntmps65
  go_wp2_with fail
  refine region_quiet_tail 13 (C := fun w' => ∃ m, w' = w.drewN m) (by kernel_rfl) (by kernel_rfl) ⟨1, rfl⟩ ?_
  simp only [List.take_succ_cons, List.take_zero, List.drop_succ_cons, List.drop_zero]
  iterate 13 go_big_quiet_step (fail)
  refine wpQuiet_nil ?_
  rintro _ ⟨m, rfl⟩
  have r0 : ((w.drewN m).setCell ⟨B, 0, none⟩ (.slice (some ⟨g, 0, none⟩) n n)).heap[B]? = some (.cells ((St0 VT).cells g n n 0) 95 (0, 0)) := by
    have : (w.drewN m).heap[B]? = some (.cells ((St0 VT).cells g n n 0) 95 (0, 0)) := H.out
    rw [setCell_heap this]; rfl
  have hw0 : Wr [B] w ((w.drewN m).setCell ⟨B, 0, none⟩ (.slice (some ⟨g, 0, none⟩) n n)) := ((Wr.refl _ _).drewN m).trans (Wr.setCell _ _ (by simp))
  have cc : ∀ i, ((w.drewN m).setCell ⟨B, 0, none⟩ (.slice (some ⟨g, 0, none⟩) n n)).cell? ⟨B, i, none⟩ = ((St0 VT).cells g n n 0)[i]? := fun i => by simp only [World.cell?, r0]; rfl
  have ff : ∀ i, ((w.drewN m).setCell ⟨B, 0, none⟩ (.slice (some ⟨g, 0, none⟩) n n)).frozen? ⟨B, i, none⟩ = false := fun i => free_of_row r0 i
  have k0 : ((w.drewN m).setCell ⟨B, 0, none⟩ (.slice (some ⟨g, 0, none⟩) n n)).cell? ⟨B, 0, none⟩ = some (.slice (some ⟨g, 0, none⟩) n n) := cc 0
  have k1 : ((w.drewN m).setCell ⟨B, 0, none⟩ (.slice (some ⟨g, 0, none⟩) n n)).cell? ⟨B, 1, none⟩ = some (.int .i64 1) := cc 1
  have k2 : ((w.drewN m).setCell ⟨B, 0, none⟩ (.slice (some ⟨g, 0, none⟩) n n)).cell? ⟨B, 2, none⟩ = some (.slice none 0 0) := cc 2
  have k4 : ((w.drewN m).setCell ⟨B, 0, none⟩ (.slice (some ⟨g, 0, none⟩) n n)).cell? ⟨B, 4, none⟩ = some (.slice (some ⟨VT, 0, none⟩) 0 16) := cc 4
  have k5 : ((w.drewN m).setCell ⟨B, 0, none⟩ (.slice (some ⟨g, 0, none⟩) n n)).cell? ⟨B, 5, none⟩ = some (.int .u32 0) := cc 5
  have k6 : ((w.drewN m).setCell ⟨B, 0, none⟩ (.slice (some ⟨g, 0, none⟩) n n)).cell? ⟨B, 6, none⟩ = some (.bool false) := cc 6
  have k7 : ((w.drewN m).setCell ⟨B, 0, none⟩ (.slice (some ⟨g, 0, none⟩) n n)).cell? ⟨B, 7, none⟩ = some (.bool false) := cc 7
  have f1 := ff 1
  have f4 := ff 4
  have f5 := ff 5
  have f6 := ff 6
  have f7 := ff 7
  have R0 := Lib.hid r0
  have W0 := Lib.hid hw0
  clear r0 hw0 cc ff
  go_wp2_with fail
  go_end0
  refine ⟨rfl, ?_, ?_⟩
  · rw [setCell_heap (setCell_heap (setCell_heap (setCell_heap (setCell_heap R0.out))))]
    rfl
  · exact ((((W0.out.trans (Wr.setCell _ _ (by simp))).trans (Wr.setCell _ _ (by simp))).trans (Wr.setCell _ _ (by simp))).trans (Wr.setCell _ _ (by simp))).trans (Wr.setCell _ _ (by simp))
end Go.Proofs.YtegohkgmamnkdaaGreat.Msg
