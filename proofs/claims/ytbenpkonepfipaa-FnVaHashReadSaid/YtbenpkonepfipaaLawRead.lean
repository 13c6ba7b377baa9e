/- The law of the reading of a hash's text, walked. No condition. -/
import Derived.Test.YtbenpkonepfipaaHr5
import Derived.Test.YtbenpkonepfipaaSl
set_option linter.unusedVariables false
namespace Go.Proofs.Ytbenpkonepfipaa.LawRead
open Go.ChangeShapes Go.WideShapes Go.ChangeAt Go.RowKit
open Go.Proofs.Ytbenpkonepfipaa.Dig Go.Proofs.Ytbenpkonepfipaa.Mem Go.Proofs.Ytbenpkonepfipaa.Rb Go.Proofs.Ytbenpkonepfipaa.Ord Go.Proofs.Ytbenpkonepfipaa.Hr

def OOO : ByteArray := ⟨#[48, 48, 48, 48, 48, 48, 48, 48, 48, 48, 48, 48, 48, 48, 48, 48, 48, 48, 48, 48, 48, 48, 48, 48, 48, 48, 48, 48, 48, 48, 48, 48]⟩
theorem good_OOO : good (chars OOO) = true := by decide

theorem eq_arr (xs : List Nat) (hx : xs.length = 20) (bx : ∀ x ∈ xs, x < 256) : ∀ w, (Op.equalIn 10000 22 (.agg (Arr .u8 xs)) (.agg (Arr .u8 xs))).run Try.prog w = .ok true w := fun w => by
  have := run_equalIn_arr (P := Try.prog) w 9998 22 5 20 Try.underlying22 Try.underlying5 Ord.size5 hx hx bx bx
  simpa using this

theorem RB.of_arr {w : World} {b : Nat} {xs : List Nat} {M : Array Value} {t : TypeId} (h : w.heap[b]? = some (.cells M t (0, 0))) (hM : M = Arr .u8 xs) (hl : xs.length = 20) (bx : ∀ x ∈ xs, x < 256) : RB w (some ⟨b, 0, none⟩) 20 20 xs := by
  subst hM
  exact ⟨hl, Nat.le_refl _, by unfold maxLen; omega, bx, fun _ => ⟨b, 0, rfl, bytes_arr h⟩⟩

set_option maxRecDepth 100000 in
set_option maxHeartbeats 1000000 in
theorem main (w : World) (s : ByteArray) (a : Option Addr) (n c : Nat) (xs : List Nat) (hx : RB w a n c xs) (hs : s.size ≤ 200) (hn : n ≤ 200) (is three : Bool) (hth : three = decide (n = 20))
    (G M O : Array Value) (HG : Hid ((Try.prog.info? 22).map (·.size) = some G.size)) (HG2 : Hid (Z20.size = G.size)) (HM2 : Hid (Z20.size = M.size)) (HO2 : Hid (Z20.size = O.size))
    (G1 : Hid (G.all (·.oneCell') = true)) (M1 : Hid (M.all (·.oneCell') = true)) (O1 : Hid (O.all (·.oneCell') = true)) (HM : Hid ((Try.prog.info? 22).map (·.size) = some M.size)) (HO : Hid ((Try.prog.info? 22).map (·.size) = some O.size))
    (hM : three = true → M = Arr .u8 xs)
    (he : ∀ w, (Op.equalIn 10000 22 (.agg G) (.agg G)).run Try.prog w = .ok true w)
    (K14 : Hid (∀ w, Calls Try.prog 14 #[.string s] w fun e w' => e = .returned (.tuple #[.agg G, .bool is]) ∧ Below w.heap.size w w'))
    (K15 : Hid (∀ w, Calls Try.prog 15 #[.string s] w fun e w' => e = .returned (.tuple #[.agg G, .bool is]) ∧ Below w.heap.size w w'))
    (K16 : Hid (∀ w, Calls Try.prog 16 #[.string s] w fun e w' => e = .returned (.tuple #[.agg G, .bool is]) ∧ Below w.heap.size w w'))
    (K17 : Hid (∀ w', Below w.heap.size w w' → Calls Try.prog 17 #[.slice a n c] w' fun e w'' => e = .returned (.tuple #[.agg M, .bool three]) ∧ Below w'.heap.size w' w''))
    (K15' : Hid (∀ w, Calls Try.prog 15 #[.string ⟨#[48, 48, 48, 48, 48, 48, 48, 48, 48, 48, 48, 48, 48, 48, 48, 48, 48, 48, 48, 48, 48, 48, 48, 48, 48, 48, 48, 48, 48, 48, 48, 48]⟩] w fun e w' => e = .returned (.tuple #[.agg O, .bool true]) ∧ Below w.heap.size w w'))
    (K18 : Hid (∀ w, Calls Try.prog 18 #[.string s] w fun e w' => e = .returned (.bool is) ∧ w = w'))
    (K10 : Hid (is = true → ∀ w, Calls Try.prog 10 #[.agg G] w fun e w' => e = .returned (.string s) ∧ Below w.heap.size w w')) :
    Calls Try.prog 4 #[.string s, .slice a n c] w fun e w' => e = .returned (.bool true) ∧ Below w.heap.size w w' := by
  have q1 : ¬ (2147483647 : Int) < (s.size : Int) := by omega
  have q2 : ¬ (2147483647 : Int) < (n : Int) := by omega
  have q3 : ¬ (200 : Int) < (s.size : Int) := by omega
  have q4 : ¬ (200 : Int) < (n : Int) := by omega
  have HX := Lib.hid hx
  have HMM := Lib.hid hM
  have HE := Lib.hid he
  have hnc := hx.le
  have hct := hx.top
  unfold maxLen at hct
  clear hx hM he
  have T0 := Lib.hid (Keep.start w 22)
  have HLL := Lib.hid HX.out.len
  cases is <;> cases three
  · have hn20 : ¬ n = 20 := by simpa using hth
    have h20 : ¬ ((n : Int) = 20) := by omega
    clear hth
    have HE' := HE.out
    go_enter Try.func4, Try.ntmps4
    go_wp2_with (first
      | (go_at_call 14; (with_reducible refine (K14.out _).mono ?_); rintro e w1 ⟨rfl, hb1⟩; have T1 := Lib.hid ((T0.out.later hb1).push G))
      | (with_reducible refine store_new (A := Z20) (t := 22) rfl 22 (.tmp 5) (.tmp 34) rfl G rfl rfl HG.out HG2.out G1.out ?_)
      | (go_at_call 15; (with_reducible refine (K15.out _).mono ?_); rintro e w2 ⟨rfl, hb2⟩; have T2 := Lib.hid ((T1.out.later hb2).push G))
      | (with_reducible refine store_new (A := Z20) (t := 22) rfl 22 (.tmp 7) (.tmp 39) rfl G rfl rfl HG.out HG2.out G1.out ?_)
      | (go_at_call 16; (with_reducible refine (K16.out _).mono ?_); rintro e w3 ⟨rfl, hb3⟩; have T3 := Lib.hid ((T2.out.later hb3).push G))
      | (with_reducible refine store_new (A := Z20) (t := 22) rfl 22 (.tmp 9) (.tmp 44) rfl G rfl rfl HG.out HG2.out G1.out ?_)
      | (go_at_call 17; (with_reducible refine (K17.out _ T3.out.bel).mono ?_); rintro e w4 ⟨rfl, hb4⟩; have T4 := Lib.hid ((T3.out.later hb4).push M))
      | (with_reducible refine store_new (A := Z20) (t := 22) rfl 22 (.tmp 11) (.tmp 49) rfl M rfl rfl HM.out HM2.out M1.out ?_)
      | (go_at_call 15; (with_reducible refine (K15'.out _).mono ?_); rintro e w5 ⟨rfl, hb5⟩; have T5 := Lib.hid ((T4.out.later hb5).push O))
      | (with_reducible refine store_new (A := Z20) (t := 22) rfl 22 (.tmp 13) (.tmp 53) rfl O rfl rfl HO.out HO2.out O1.out ?_)
      | (go_at_call 18; (with_reducible refine (K18.out _).mono ?_); rintro e w6 ⟨rfl, rfl⟩))
    go_ret
    exact ⟨rfl, T5.out.bel⟩
  · have hn20 : n = 20 := by simpa using hth
    subst hn20
    clear hth
    have HE' := HE.out
    go_enter Try.func4, Try.ntmps4
    go_wp2_with (first
      | (go_at_call 14; (with_reducible refine (K14.out _).mono ?_); rintro e w1 ⟨rfl, hb1⟩; have T1 := Lib.hid ((T0.out.later hb1).push G))
      | (with_reducible refine store_new (A := Z20) (t := 22) rfl 22 (.tmp 5) (.tmp 34) rfl G rfl rfl HG.out HG2.out G1.out ?_)
      | (go_at_call 15; (with_reducible refine (K15.out _).mono ?_); rintro e w2 ⟨rfl, hb2⟩; have T2 := Lib.hid ((T1.out.later hb2).push G))
      | (with_reducible refine store_new (A := Z20) (t := 22) rfl 22 (.tmp 7) (.tmp 39) rfl G rfl rfl HG.out HG2.out G1.out ?_)
      | (go_at_call 16; (with_reducible refine (K16.out _).mono ?_); rintro e w3 ⟨rfl, hb3⟩; have T3 := Lib.hid ((T2.out.later hb3).push G))
      | (with_reducible refine store_new (A := Z20) (t := 22) rfl 22 (.tmp 9) (.tmp 44) rfl G rfl rfl HG.out HG2.out G1.out ?_)
      | (go_at_call 17; (with_reducible refine (K17.out _ T3.out.bel).mono ?_); rintro e w4 ⟨rfl, hb4⟩; have T4 := Lib.hid ((T3.out.later hb4).push M))
      | (with_reducible refine store_new (A := Z20) (t := 22) rfl 22 (.tmp 11) (.tmp 49) rfl M rfl rfl HM.out HM2.out M1.out ?_)
      | (go_at_call 15; (with_reducible refine (K15'.out _).mono ?_); rintro e w5 ⟨rfl, hb5⟩; have T5 := Lib.hid ((T4.out.later hb5).push O))
      | (with_reducible refine store_new (A := Z20) (t := 22) rfl 22 (.tmp 13) (.tmp 53) rfl O rfl rfl HO.out HO2.out O1.out ?_)
      | (go_at_call 18; (with_reducible refine (K18.out _).mono ?_); rintro e w6 ⟨rfl, rfl⟩)
      | (go_at_call 19; (with_reducible refine (Sl.vaSame _ _ _ _ _ _ _ xs xs (RB.of_arr (T5.out.at w4.heap.size M (by simp)) (HMM.out trivial) HLL.out HX.out.byte) (HX.out.below T5.out.bel (Nat.le_refl _))).mono ?_); rintro e w8 ⟨rfl, rfl⟩))
    go_ret
    exact ⟨rfl, T5.out.bel⟩
  · have hn20 : ¬ n = 20 := by simpa using hth
    have h20 : ¬ ((n : Int) = 20) := by omega
    clear hth
    have HE' := HE.out
    go_enter Try.func4, Try.ntmps4
    go_wp2_with (first
      | (go_at_call 14; (with_reducible refine (K14.out _).mono ?_); rintro e w1 ⟨rfl, hb1⟩; have T1 := Lib.hid ((T0.out.later hb1).push G))
      | (with_reducible refine store_new (A := Z20) (t := 22) rfl 22 (.tmp 5) (.tmp 34) rfl G rfl rfl HG.out HG2.out G1.out ?_)
      | (go_at_call 15; (with_reducible refine (K15.out _).mono ?_); rintro e w2 ⟨rfl, hb2⟩; have T2 := Lib.hid ((T1.out.later hb2).push G))
      | (with_reducible refine store_new (A := Z20) (t := 22) rfl 22 (.tmp 7) (.tmp 39) rfl G rfl rfl HG.out HG2.out G1.out ?_)
      | (go_at_call 16; (with_reducible refine (K16.out _).mono ?_); rintro e w3 ⟨rfl, hb3⟩; have T3 := Lib.hid ((T2.out.later hb3).push G))
      | (with_reducible refine store_new (A := Z20) (t := 22) rfl 22 (.tmp 9) (.tmp 44) rfl G rfl rfl HG.out HG2.out G1.out ?_)
      | (go_at_call 17; (with_reducible refine (K17.out _ T3.out.bel).mono ?_); rintro e w4 ⟨rfl, hb4⟩; have T4 := Lib.hid ((T3.out.later hb4).push M))
      | (with_reducible refine store_new (A := Z20) (t := 22) rfl 22 (.tmp 11) (.tmp 49) rfl M rfl rfl HM.out HM2.out M1.out ?_)
      | (go_at_call 15; (with_reducible refine (K15'.out _).mono ?_); rintro e w5 ⟨rfl, hb5⟩; have T5 := Lib.hid ((T4.out.later hb5).push O))
      | (with_reducible refine store_new (A := Z20) (t := 22) rfl 22 (.tmp 13) (.tmp 53) rfl O rfl rfl HO.out HO2.out O1.out ?_)
      | (go_at_call 18; (with_reducible refine (K18.out _).mono ?_); rintro e w6 ⟨rfl, rfl⟩)
      | (refine load_row_w rfl 22 (.tmp 7) rfl w2.heap.size rfl G (0, 0) _ (T5.out.at w2.heap.size G (by simp)) Try.underlying22 rfl HG.out ?_)
      | (refine load_row_w rfl 22 (.tmp 5) rfl w1.heap.size rfl G (0, 0) _ (T5.out.at w1.heap.size G (by simp)) Try.underlying22 rfl HG.out ?_)
      | (refine load_row_w rfl 22 (.tmp 9) rfl w3.heap.size rfl G (0, 0) _ (T5.out.at w3.heap.size G (by simp)) Try.underlying22 rfl HG.out ?_)
      | (go_at_call 10; (with_reducible refine (K10.out trivial _).mono ?_); rintro e w7 ⟨rfl, hb7⟩; have T6 := Lib.hid (T5.out.later hb7)))
    go_ret
    exact ⟨rfl, T6.out.bel⟩
  · have hn20 : n = 20 := by simpa using hth
    subst hn20
    clear hth
    have HE' := HE.out
    go_enter Try.func4, Try.ntmps4
    go_wp2_with (first
      | (go_at_call 14; (with_reducible refine (K14.out _).mono ?_); rintro e w1 ⟨rfl, hb1⟩; have T1 := Lib.hid ((T0.out.later hb1).push G))
      | (with_reducible refine store_new (A := Z20) (t := 22) rfl 22 (.tmp 5) (.tmp 34) rfl G rfl rfl HG.out HG2.out G1.out ?_)
      | (go_at_call 15; (with_reducible refine (K15.out _).mono ?_); rintro e w2 ⟨rfl, hb2⟩; have T2 := Lib.hid ((T1.out.later hb2).push G))
      | (with_reducible refine store_new (A := Z20) (t := 22) rfl 22 (.tmp 7) (.tmp 39) rfl G rfl rfl HG.out HG2.out G1.out ?_)
      | (go_at_call 16; (with_reducible refine (K16.out _).mono ?_); rintro e w3 ⟨rfl, hb3⟩; have T3 := Lib.hid ((T2.out.later hb3).push G))
      | (with_reducible refine store_new (A := Z20) (t := 22) rfl 22 (.tmp 9) (.tmp 44) rfl G rfl rfl HG.out HG2.out G1.out ?_)
      | (go_at_call 17; (with_reducible refine (K17.out _ T3.out.bel).mono ?_); rintro e w4 ⟨rfl, hb4⟩; have T4 := Lib.hid ((T3.out.later hb4).push M))
      | (with_reducible refine store_new (A := Z20) (t := 22) rfl 22 (.tmp 11) (.tmp 49) rfl M rfl rfl HM.out HM2.out M1.out ?_)
      | (go_at_call 15; (with_reducible refine (K15'.out _).mono ?_); rintro e w5 ⟨rfl, hb5⟩; have T5 := Lib.hid ((T4.out.later hb5).push O))
      | (with_reducible refine store_new (A := Z20) (t := 22) rfl 22 (.tmp 13) (.tmp 53) rfl O rfl rfl HO.out HO2.out O1.out ?_)
      | (go_at_call 18; (with_reducible refine (K18.out _).mono ?_); rintro e w6 ⟨rfl, rfl⟩)
      | (refine load_row_w rfl 22 (.tmp 7) rfl w2.heap.size rfl G (0, 0) _ (T5.out.at w2.heap.size G (by simp)) Try.underlying22 rfl HG.out ?_)
      | (refine load_row_w rfl 22 (.tmp 5) rfl w1.heap.size rfl G (0, 0) _ (T5.out.at w1.heap.size G (by simp)) Try.underlying22 rfl HG.out ?_)
      | (refine load_row_w rfl 22 (.tmp 9) rfl w3.heap.size rfl G (0, 0) _ (T5.out.at w3.heap.size G (by simp)) Try.underlying22 rfl HG.out ?_)
      | (go_at_call 10; (with_reducible refine (K10.out trivial _).mono ?_); rintro e w7 ⟨rfl, hb7⟩; have T6 := Lib.hid (T5.out.later hb7))
      | (go_at_call 19; (with_reducible refine (Sl.vaSame _ _ _ _ _ _ _ xs xs (RB.of_arr (T6.out.at w4.heap.size M (by simp)) (HMM.out trivial) HLL.out HX.out.byte) (HX.out.below T6.out.bel (Nat.le_refl _))).mono ?_); rintro e w8 ⟨rfl, rfl⟩))
    go_ret
    exact ⟨rfl, T6.out.bel⟩
end Go.Proofs.Ytbenpkonepfipaa.LawRead
