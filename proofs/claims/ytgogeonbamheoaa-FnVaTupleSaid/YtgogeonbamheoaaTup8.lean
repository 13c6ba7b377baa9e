/- The room for a tuple, walked. Conditions: at most 200 fields, 20000 bytes. -/
import Derived.Test.YtgogeonbamheoaaTup7
set_option linter.unusedVariables false
namespace Go.Proofs.Ytgogeonbamheoaa.Tup
open Go.ChangeShapes Go.WideShapes Go.ChangeAt Go.RowKit
open Go.Proofs.Ytgogeonbamheoaa.Dig Go.Proofs.Ytgogeonbamheoaa.Mem Go.Proofs.Ytgogeonbamheoaa.Rb Go.Proofs.Ytgogeonbamheoaa.Sl Go.Proofs.Ytgogeonbamheoaa.Tri

theorem room_set (S p q : Nat) : ((List.replicate (S + 2) 0).set S p).set (S + 1) q = List.replicate S 0 ++ [p, q] := by
  have h : ∀ (X : List Nat) (E : Nat), X.length = E → ((X ++ List.replicate 2 0).set E p).set (E + 1) q = X ++ [p, q] := by
    rintro X _ rfl
    simp [List.replicate_succ]
  rw [← List.replicate_append_replicate]
  exact h _ _ (by simp)

theorem allocateTuple (w : World) (T n S N : Nat) (hn : n ≤ 200) (hT : T ≤ 20000) (hS : S = T + offs n) (hN : N = S + 2) :
    Calls Try.prog 35 #[.iface 54 (.int .u8 0), .int .u16 (T : Int), .int .i64 (n : Int)] w fun e w' =>
      e = .returned (.tuple #[.slice (some ⟨w.heap.size, 0, none⟩) N N, .slice (some ⟨w.heap.size, T, none⟩) (offs n) (N - T)]) ∧ Own w w' w.heap.size (List.replicate S 0 ++ pr n) := by
  have T0 : Own w (w.alloc (.cells (bs (List.replicate N 0)).toArray 5)) w.heap.size (List.replicate N 0) := ⟨heap_alloc_new _ _, (Below.refl _ _).alloc (Nat.le_refl _) _, Nat.le_refl _⟩
  obtain ⟨M, hM⟩ : ∃ M, M = offs n := ⟨_, rfl⟩
  have hMb : M ≤ 400 := by rw [hM]; unfold offs; omega
  have K40 := Lib.hid fun w' => offsetsSize w' n hn
  rw [← hM] at K40 hS ⊢
  have K41 := writeCount w _ w.heap.size S n _ T0 (by rw [List.length_replicate, hN]) (by omega) (by omega)
  rw [← hN] at K41
  have K41 := Lib.hid K41
  have s1 : (T : Int) + (M : Int) = (S : Int) := by omega
  have s2 : (S : Int) + 2 = (N : Int) := by omega
  have hSb : S ≤ 20400 := by omega
  have hNb : N ≤ 20402 := by omega
  have hcut : ∀ w', (Instr.slice 45 (.slice (some ⟨w.heap.size, 0, none⟩) N N) (some (.int .u16 (T : Int))) (some (.int .u16 (S : Int))) none).run Try.prog w' = .ok (.slice (some ⟨w.heap.size, T, none⟩) M (N - T)) w' := fun w' => by
    have e45 : Try.prog.elem 45 = 5 := by kernel_rfl
    have := cutA_run (P := Try.prog) (t := 45) (w := w') (by rw [e45]; exact Try.underlying45) (by rw [e45]; exact size1 w') (some ⟨w.heap.size, 0, none⟩) N N .u16 .u16 T S (by omega) (by omega)
    rw [this]
    unfold cutA
    rw [if_neg (by omega), show S - T = M by omega]
    simp only [Option.map_some, addr_add]
  have HN := Lib.hid hN
  clear T0 hM hS hN
  go_enter Try.func35, Try.ntmps35
  go_wp2_with (first
    | (go_at_call 40; (with_reducible refine (K40.out _).mono ?_); rintro e w1 ⟨rfl, rfl⟩)
    | (go_at_call 57; (with_reducible refine (poolGet _ _ (by omega)).mono ?_); rintro e w1 ⟨rfl, rfl⟩)
    | (go_at_call 41; (with_reducible refine K41.out.mono ?_); rintro e w2 ⟨rfl, h1⟩; have H1 := Lib.hid h1; clear h1))
  refine bodyPost_ret (results_tmp2 rfl _ _ _) rfl ?_
  refine ⟨rfl, ?_⟩
  have := H1.out
  rw [HN.out, room_set] at this
  exact this
end Go.Proofs.Ytgogeonbamheoaa.Tup
