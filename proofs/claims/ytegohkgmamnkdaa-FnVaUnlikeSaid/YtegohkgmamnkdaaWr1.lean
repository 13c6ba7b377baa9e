/- The bytes of rows written as one vector, walked. Condition: the builder grows once at most. -/
import Derived.Test.YtegohkgmamnkdaaFld
set_option linter.unusedVariables false
namespace Go.Proofs.Ytegohkgmamnkdaa.Msg
open Go.ChangeShapes Go.WideShapes Go.ChangeAt Go.RowKit
open Go.Proofs.Ytegohkgmamnkdaa.Dig Go.Proofs.Ytegohkgmamnkdaa.Mem Go.Proofs.Ytegohkgmamnkdaa.Rb

theorem pad0 (w : World) (B : Nat) :
    Calls Try.prog 53 #[.pointer (some ⟨B, 0, none⟩), .int .i64 0] w fun e w' => e = .returned (.tuple #[]) ∧ w = w' := by
  go_enter Try.func53, Try.ntmps53
  go_wp2_with fail
  go_loopw [4] (fun iv wr => iv = .int .i64 0 ∧ w = wr) (fun _ _ => 0)
  case atStart => exact ⟨rfl, rfl⟩
  case round =>
    obtain ⟨rfl, rfl⟩ := hrel
    go_wp2_with fail
    go_end0
    exact ⟨rfl, rfl⟩
set_option maxRecDepth 100000 in
set_option maxHeartbeats 1000000 in
/-- Nothing to make ready: nothing turns. -/
theorem prepNoop (w : World) (B g N C H ad : Nat) (xs : List Nat) (s : St) (h : Bd w B g N C H xs s) (hN : N ≤ 200000) (had : ad ≤ 100000) (hma : 4 ≤ s.ma) (hP : padOf 4 (xs.length + ad) = 0) (hH : 4 + ad < H) :
    Calls Try.prog 36 #[.pointer (some ⟨B, 0, none⟩), .int .i64 4, .int .i64 (ad : Int)] w fun e w' => e = .returned (.tuple #[]) ∧ ∃ m, w' = w.drewN m := by
  have hl := h.len
  have c1 : w.cell? ⟨B, 1, none⟩ = some (.int .i64 (s.ma : Int)) := h.cell 1
  have c5 : w.cell? ⟨B, 5, none⟩ = some (.int .u32 (H : Int)) := h.cell 5
  have c0 : w.cell? ⟨B, 0, none⟩ = some (.slice (some ⟨g, 0, none⟩) N C) := h.cell 0
  obtain ⟨L, hL⟩ : ∃ L, L = xs.length := ⟨_, rfl⟩
  have s1 : (N : Int) - (H : Int) = (L : Int) := by omega
  obtain ⟨X, hX⟩ : ∃ X, X = L + ad := ⟨_, rfl⟩
  have s2 : (L : Int) + (ad : Int) = (X : Int) := by omega
  have hX1 : X ≤ 10000000 := by omega
  have s3 : bits .xor .i64 (-1) (X : Int) = -1 - (X : Int) := i64_not X (by omega)
  have s4 : bits .and .i64 (-(X : Int)) 3 = 0 := by
    have := and_pad X 4 hX1 (by decide) 3 rfl
    rw [show padOf 4 X = 0 by rw [hX, hL]; exact hP] at this
    exact this
  have s5 : (-1 - (X : Int)) + 1 = -(X : Int) := by omega
  have s6 : Go.RowKit.wrap64 (-(X : Int)) = -(X : Int) := by unfold Go.RowKit.wrap64; omega
  have hma' : ¬ (s.ma : Int) < 4 := by omega
  have hlt : ¬ (H : Int) ≤ 4 + (ad : Int) := by omega
  have hlt2 : ¬ (H : Int) ≤ 0 + 4 + (ad : Int) := by omega
  have bH : H ≤ 200000 := by omega
  have HB := Lib.hid h
  clear h hl hL hX hP hma hH
  go_enter Try.func36, Try.ntmps36
  go_wp2_with fail
  go_quiet ((go_at_call 37; exact quiet_left (head _ B g N C H xs s (HB.out.drewN _))))
  go_wp2_with fail
  go_loopw [7] (fun _ wr => wr = w.drewN nq) (fun _ _ => 0)
  case atStart => exact rfl
  case round =>
    obtain rfl := hrel
    have d5 : (w.drewN nq).cell? ⟨B, 5, none⟩ = some (.int .u32 (H : Int)) := c5
    go_wp2_with (go_at_call 53; (with_reducible refine (pad0 _ B).mono ?_); rintro e w3 ⟨rfl, rfl⟩)
    go_end0
    exact ⟨rfl, _, rfl⟩
end Go.Proofs.Ytegohkgmamnkdaa.Msg
