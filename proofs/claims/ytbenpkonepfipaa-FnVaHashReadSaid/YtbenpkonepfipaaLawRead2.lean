/- The law of the reading of a hash's text: what the parts answer, and the sizes. No condition. -/
import Derived.Test.YtbenpkonepfipaaLawRead
set_option linter.unusedVariables false
namespace Go.Proofs.Ytbenpkonepfipaa.LawRead
open Go.ChangeShapes Go.WideShapes Go.ChangeAt Go.RowKit
open Go.Proofs.Ytbenpkonepfipaa.Dig Go.Proofs.Ytbenpkonepfipaa.Mem Go.Proofs.Ytbenpkonepfipaa.Rb Go.Proofs.Ytbenpkonepfipaa.Ord Go.Proofs.Ytbenpkonepfipaa.Hr

theorem got_byte (cs : List Nat) : ∀ x ∈ got cs, x < 256 := by
  unfold got
  split
  · exact digs_lt (by omega) _ _
  · decide
theorem made_length (xs : List Nat) : (made xs).length = 20 := by
  unfold made
  split
  · assumption
  · rfl
theorem z20 (xs : List Nat) (h : xs.length = 20) : Z20.size = (Arr .u8 xs).size := by rw [Arr_size, h]; rfl

theorem fine (w : World) (s : ByteArray) (a : Option Addr) (n c : Nat) (xs : List Nat) (hx : RB w a n c xs) (hs : s.size ≤ 200) (hn : n ≤ 200) :
    Calls Try.prog 4 #[.string s, .slice a n c] w fun e w' => e = .returned (.bool true) ∧ Below w.heap.size w w' := by
  obtain ⟨hi, ht⟩ := isTxt s
  have hl := hx.len
  have hg := got_length (chars s)
  have hO := got_length (chars OOO)
  have hm := made_length xs
  refine main w s a n c xs hx hs hn (good (chars s)) (decide (xs.length = 20)) (by rw [hl]) (Arr .u8 (got (chars s))) (Arr .u8 (made xs)) (Arr .u8 (got (chars OOO)))
    (Lib.hid (size22 hg)) (Lib.hid (z20 _ hg)) (Lib.hid (z20 _ hm)) (Lib.hid (z20 _ hO)) (Lib.hid (one_cells _)) (Lib.hid (one_cells _)) (Lib.hid (one_cells _)) (Lib.hid (size22 hm)) (Lib.hid (size22 hO))
    (fun h => by unfold made; rw [if_pos (of_decide_eq_true h)]) (eq_arr _ hg (got_byte _)) (Lib.hid fun w' => specRead w' s _ hi) (Lib.hid fun w' => implRead w' s _ hi) (Lib.hid fun w' => implParse w' s _ hi)
    (Lib.hid fun w' hb => implNew w' a n c xs (hx.below hb (Nat.le_refl _))) (Lib.hid fun w' => ?_) (Lib.hid fun w' => implValid w' s _ hi) (Lib.hid fun h w' => ?_)
  · have := implRead w' OOO _ (isTxt OOO).1
    rw [good_OOO] at this
    exact this
  · have := implText w' (got (chars s)) hg (got_byte _)
    have hgood := h
    simp only [good, Bool.and_eq_true, decide_eq_true_eq, List.all_eq_true] at hgood
    have e : htext (got (chars s)) = chars s := by
      unfold htext got
      rw [if_pos h]
      exact text_back hgood.1 hgood.2
    rw [e] at this
    have e2 : Enc.txt (chars s) = s := ht.symm
    rw [e2] at this
    exact this

theorem walk (w : World) (s : ByteArray) (a : Option Addr) (n c : Nat) (xs : List Nat) (hx : RB w a n c xs) (hs : s.size ≤ maxLen) :
    Calls Try.prog 4 #[.string s, .slice a n c] w fun e w' => e = .returned (.bool true) ∧ Below w.heap.size w w' := by
  have hnc := hx.le
  have hct := hx.top
  unfold maxLen at hct hs
  have HX := Lib.hid hx
  clear hx
  by_cases g1 : 2147483647 < s.size
  · have g1' : (2147483647 : Int) < (s.size : Int) := by omega
    go_enter Try.func4, Try.ntmps4
    go_wp2_with fail
    go_ret
    exact ⟨rfl, by go_grown⟩
  by_cases g2 : 2147483647 < n
  · have g1' : ¬ (2147483647 : Int) < (s.size : Int) := by omega
    have g2' : (2147483647 : Int) < (n : Int) := by omega
    go_enter Try.func4, Try.ntmps4
    go_wp2_with fail
    go_ret
    exact ⟨rfl, by go_grown⟩
  have g1' : ¬ (2147483647 : Int) < (s.size : Int) := by omega
  have g2' : ¬ (2147483647 : Int) < (n : Int) := by omega
  by_cases g3 : 200 < s.size
  · have g3' : (200 : Int) < (s.size : Int) := by omega
    go_enter Try.func4, Try.ntmps4
    go_wp2_with fail
    go_ret
    exact ⟨rfl, by go_grown⟩
  by_cases g4 : 200 < n
  · have g3' : ¬ (200 : Int) < (s.size : Int) := by omega
    have g4' : (200 : Int) < (n : Int) := by omega
    go_enter Try.func4, Try.ntmps4
    go_wp2_with fail
    go_ret
    exact ⟨rfl, by go_grown⟩
  exact fine w s a n c xs HX.out (by omega) (by omega)
end Go.Proofs.Ytbenpkonepfipaa.LawRead
