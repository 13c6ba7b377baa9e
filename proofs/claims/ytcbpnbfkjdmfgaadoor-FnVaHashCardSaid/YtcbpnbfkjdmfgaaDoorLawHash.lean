/- The law of the hash of some bytes, walked over its parts' contracts. Condition: at most 4000 bytes. -/
import Derived.Test.YtcbpnbfkjdmfgaaDoorHr4
import Derived.Test.YtcbpnbfkjdmfgaaDoorHText
set_option linter.unusedVariables false
namespace Go.Proofs.YtcbpnbfkjdmfgaaDoor.LawHash
open Go.ChangeShapes Go.WideShapes Go.ChangeAt Go.RowKit
open Go.Proofs.YtcbpnbfkjdmfgaaDoor.Dig Go.Proofs.YtcbpnbfkjdmfgaaDoor.Mem Go.Proofs.YtcbpnbfkjdmfgaaDoor.Rb Go.Proofs.YtcbpnbfkjdmfgaaDoor.Ord Go.Proofs.YtcbpnbfkjdmfgaaDoor.Hr

theorem eq_arr (xs : List Nat) (hx : xs.length = 20) (bx : ∀ x ∈ xs, x < 256) : ∀ w, (Op.equalIn 10000 23 (.agg (Arr .u8 xs)) (.agg (Arr .u8 xs))).run Tryd.prog w = .ok true w := fun w => by
  have := run_equalIn_arr (P := Tryd.prog) w 9998 23 5 20 Tryd.underlying23 Tryd.underlying5 Ord.size5 hx hx bx bx
  simpa using this

set_option maxRecDepth 100000 in
set_option maxHeartbeats 2000000 in
theorem main (w : World) (a : Option Addr) (n c : Nat) (hnc : n ≤ c) (hct : c ≤ maxLen) (hn : n ≤ 4000) (G : Array Value) (S : ByteArray)
    (HG : Hid ((Tryd.prog.info? 23).map (·.size) = some G.size)) (HG2 : Hid (Z20.size = G.size)) (G1 : Hid (G.all (·.oneCell') = true))
    (he : ∀ w, (Op.equalIn 10000 23 (.agg G) (.agg G)).run Tryd.prog w = .ok true w)
    (K4 : Hid (∀ w', Below w.heap.size w w' → Calls Tryd.prog 4 #[.slice a n c] w' fun e w'' => e = .returned (.agg G) ∧ Below w'.heap.size w' w''))
    (K9 : Hid (∀ w', Below w.heap.size w w' → Calls Tryd.prog 9 #[.slice a n c] w' fun e w'' => e = .returned (.agg G) ∧ Below w'.heap.size w' w''))
    (K5 : Hid (∀ w, Calls Tryd.prog 5 #[.agg G] w fun e w' => e = .returned (.string S) ∧ Below w.heap.size w w'))
    (K10 : Hid (∀ w, Calls Tryd.prog 10 #[.agg G] w fun e w' => e = .returned (.string S) ∧ Below w.heap.size w w'))
    (K6 : Hid (∀ w, Calls Tryd.prog 6 #[.string S] w fun e w' => e = .returned (.tuple #[.agg G, .bool true]) ∧ Below w.heap.size w w'))
    (K7 : Hid (∀ w, Calls Tryd.prog 7 #[.string S] w fun e w' => e = .returned (.tuple #[.agg G, .bool true]) ∧ Below w.heap.size w w'))
    (K8 : Hid (∀ w b, w.heap[b]? = some (.cells G 23 (0, 0)) → Calls Tryd.prog 8 #[.slice (some ⟨b, 0, none⟩) 20 20] w fun e w' => e = .returned (.tuple #[.agg G, .bool true]) ∧ Below w.heap.size w w'))
    (K11 : Hid (∀ w, Calls Tryd.prog 11 #[.string S] w fun e w' => e = .returned (.bool true) ∧ Below w.heap.size w w')) :
    Calls Tryd.prog 3 #[.slice a n c] w fun e w' => e = .returned (.bool true) ∧ Below w.heap.size w w' := by
  have q1 : ¬ (2147483647 : Int) < (n : Int) := by omega
  have q2 : ¬ (4000 : Int) < (n : Int) := by omega
  unfold maxLen at hct
  have T0 := Lib.hid (Keep.start w 23)
  go_enter Tryd.func3, Tryd.ntmps3
  go_wp2_with (first
    | (go_at_call 4; (with_reducible refine (K4.out _ (Below.refl _ _)).mono ?_); rintro e w1 ⟨rfl, hb1⟩; have T1 := Lib.hid ((T0.out.later hb1).push G); clear hb1)
    | (with_reducible refine store_new (A := Z20) (t := 23) rfl 23 (.tmp 3) (.tmp 18) rfl G rfl rfl HG.out HG2.out G1.out ?_)
    | (with_reducible refine wpList_load_row rfl 23 (.tmp 3) rfl w1.heap.size rfl 23 G (0, 0) _ (heap_alloc_new _ _) Tryd.underlying23 rfl HG.out ?_)
    | (go_at_call 5; (with_reducible refine (K5.out _).mono ?_); rintro e w2 ⟨rfl, hb2⟩; have T2 := Lib.hid (T1.out.later hb2); clear hb2)
    | (go_at_call 6; (with_reducible refine (K6.out _).mono ?_); rintro e w3 ⟨rfl, hb3⟩; have T3 := Lib.hid ((T2.out.later hb3).push G); clear hb3)
    | (with_reducible refine store_new (A := Z20) (t := 23) rfl 23 (.tmp 5) (.tmp 24) rfl G rfl rfl HG.out HG2.out G1.out ?_)
    | (go_at_call 7; (with_reducible refine (K7.out _).mono ?_); rintro e w4 ⟨rfl, hb4⟩; have T4 := Lib.hid ((T3.out.later hb4).push G); clear hb4)
    | (with_reducible refine store_new (A := Z20) (t := 23) rfl 23 (.tmp 7) (.tmp 29) rfl G rfl rfl HG.out HG2.out G1.out ?_)
    | (go_at_call 8; (with_reducible refine (K8.out _ _ (T4.out.at w1.heap.size G (by simp))).mono ?_); rintro e w5 ⟨rfl, hb5⟩; have T5 := Lib.hid ((T4.out.later hb5).push G); clear hb5)
    | (with_reducible refine store_new (A := Z20) (t := 23) rfl 23 (.tmp 9) (.tmp 34) rfl G rfl rfl HG.out HG2.out G1.out ?_))
  have BEL := Lib.hid (show ∀ x : Later (w5.alloc (.cells G 23)), Below w.heap.size w x.val from fun x => T5.out.bel.trans (x.below.mono (T5.out.bel.size)))
  have A1 := Lib.hid (show ∀ x : Later (w5.alloc (.cells G 23)), x.val.heap[w1.heap.size]? = some (.cells G 23 (0, 0)) from fun x => x.heap (T5.out.at w1.heap.size G (by simp)))
  have A3 := Lib.hid (show ∀ x : Later (w5.alloc (.cells G 23)), x.val.heap[w3.heap.size]? = some (.cells G 23 (0, 0)) from fun x => x.heap (T5.out.at w3.heap.size G (by simp)))
  have A4 := Lib.hid (show ∀ x : Later (w5.alloc (.cells G 23)), x.val.heap[w4.heap.size]? = some (.cells G 23 (0, 0)) from fun x => x.heap (T5.out.at w4.heap.size G (by simp)))
  have A5 := Lib.hid (show ∀ x : Later (w5.alloc (.cells G 23)), x.val.heap[w5.heap.size]? = some (.cells G 23 (0, 0)) from fun x => x.heap (T5.out.at w5.heap.size G (by simp)))
  refine wp_region_quiet (C := fun w' => ∃ x : Later (w5.alloc (.cells G 23)), w' = x.val) (by kernel_rfl) (by kernel_rfl) (later_first _) ?_
  repeat (first
    | (refine q_load_row rfl 23 (.tmp 3) rfl w1.heap.size rfl 23 G (0, 0) _ (by rintro _ ⟨x, rfl⟩; exact A1.out x) Tryd.underlying23 rfl HG.out ?_; simp only [Act.put, List.setIfInBounds_toArray, List.set_cons_succ, List.set_cons_zero])
    | (refine q_load_row rfl 23 (.tmp 5) rfl w3.heap.size rfl 23 G (0, 0) _ (by rintro _ ⟨x, rfl⟩; exact A3.out x) Tryd.underlying23 rfl HG.out ?_; simp only [Act.put, List.setIfInBounds_toArray, List.set_cons_succ, List.set_cons_zero])
    | (refine q_load_row rfl 23 (.tmp 7) rfl w4.heap.size rfl 23 G (0, 0) _ (by rintro _ ⟨x, rfl⟩; exact A4.out x) Tryd.underlying23 rfl HG.out ?_; simp only [Act.put, List.setIfInBounds_toArray, List.set_cons_succ, List.set_cons_zero])
    | (refine q_load_row rfl 23 (.tmp 9) rfl w5.heap.size rfl 23 G (0, 0) _ (by rintro _ ⟨x, rfl⟩; exact A5.out x) Tryd.underlying23 rfl HG.out ?_; simp only [Act.put, List.setIfInBounds_toArray, List.set_cons_succ, List.set_cons_zero])
    | go_big_quiet_step ((first | (go_at_call 9; exact later_call (K9.out _ (BEL.out _))) | (go_at_call 10; exact later_call (K10.out _)) | (go_at_call 11; exact later_call (K11.out _)))))
  refine wpQuiet_nil ?_
  rintro _ ⟨x6, rfl⟩
  go_wp2
  go_ret
  exact ⟨by simp, BEL.out x6⟩
end Go.Proofs.YtcbpnbfkjdmfgaaDoor.LawHash
