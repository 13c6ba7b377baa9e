/- A builder of the size that a map's node is thought to need, walked. Condition: at most 200 items, 20000 bytes. -/
import Derived.Test.YtegohkgmamnkdaaSer
set_option linter.unusedVariables false
namespace Go.Proofs.Ytegohkgmamnkdaa.Msg
open Go.ChangeShapes Go.WideShapes Go.ChangeAt Go.RowKit
open Go.Proofs.Ytegohkgmamnkdaa.Dig Go.Proofs.Ytegohkgmamnkdaa.Mem Go.Proofs.Ytegohkgmamnkdaa.Rb

set_option maxRecDepth 100000 in
theorem getBuilder (w : World) (n : Nat) (hn : n ≤ 100000) (h0 : 0 < n) :
    Calls Try.prog 13 #[.iface 42 (.int .u8 0), .int .i64 (n : Int)] w fun e w' => e = .returned (.pointer (some ⟨w.heap.size, 0, none⟩)) ∧ Bx w w' w.heap.size n 0 [(w.heap.size + 2, UO (List.replicate 16 0))] [] (St0 (w.heap.size + 2)) := by
  have K1 := Lib.hid (newBuilder w)
  go_enter Try.func13, Try.ntmps13
  go_wp2_with (first
    | (go_at_call 34; (with_reducible refine K1.out.mono ?_); rintro e w1 ⟨rfl, h1⟩; have H1 := Lib.hid h1; have r1 : (w1.alloc (.cells (bs (List.replicate n 0)).toArray 5)).heap[w.heap.size]? = some (.cells ((St0 (w.heap.size + 2)).cells (w.heap.size + 1) 0 0 0) 67 (0, 0)) := (Below.heap_alloc _ _ _ (by have := h1.size; omega)).trans h1.row; have f1 := free_of_row r1 0; have c1 : (w1.alloc (.cells (bs (List.replicate n 0)).toArray 5)).cell? ⟨w.heap.size, 0, none⟩ = some (.slice (some ⟨w.heap.size + 1, 0, none⟩) 0 0) := (by simp only [World.cell?, r1]; rfl); have r2 := setCell_heap (o := 0) (v := .slice (some ⟨w1.heap.size, 0, none⟩) n n) r1; have K2 := Lib.hid (reset _ w.heap.size w1.heap.size n (w.heap.size + 2) r2 hn); clear h1)
    | (go_at_call 99; (with_reducible refine (poolGet w1 n (by omega)).mono ?_); rintro e w2 ⟨rfl, rfl⟩)
    | (go_at_call 35; (with_reducible refine K2.out.mono ?_); rintro e w3 ⟨rfl, h3, h4⟩; have H3 := Lib.hid h3; have H4 := Lib.hid h4; clear h3 h4))
  go_ret
  have hs1 := H1.out.size
  have hbl : Blk (w1.alloc (.cells (bs (List.replicate n 0)).toArray 5)) w1.heap.size n (List.replicate n 0) := ⟨[], by simp, by rw [List.append_nil]; exact heap_alloc_new _ _⟩
  have hbl2 : Blk w3 w1.heap.size n (List.replicate n 0 ++ []) := by
    rw [List.append_nil]
    exact (hbl.other (by omega)).later H4.out (by simp; omega)
  have hw : Wr [w.heap.size] (w1.alloc (.cells (bs (List.replicate n 0)).toArray 5)) w3 := (Wr.setCell _ _ (by simp)).trans H4.out
  have hbel : Below w.heap.size w w3 := (H1.out.bel.alloc (by omega) _).trans (hw.below (by simp) (by simp; omega))
  refine ⟨rfl, w1.heap.size, n, n, n, ⟨⟨List.replicate n 0, H3.out, hbl2, by simp, by simp, Nat.le_refl _, by omega, by simp, by simp, by omega, by unfold maxLen; omega⟩, Or.inl ⟨rfl, rfl⟩, Nat.zero_le _, hbel, Nat.le_refl _, by omega, fun p hp => ?_⟩⟩
  obtain rfl : p = (w.heap.size + 2, UO (List.replicate 16 0)) := by simpa using hp
  refine ⟨?_, by simp, by simp only; omega, by simp⟩
  exact (hw.block _ (by simp; omega) (by simp)).trans ((Below.heap_alloc _ _ _ (by omega)).trans H1.out.vt)
end Go.Proofs.Ytegohkgmamnkdaa.Msg
