/- SliceAt and TripleParts (at four noughts), walked. Conditions: as GetSlice. -/
import Derived.Test.YtbenpkonepfipaaSl
set_option linter.unusedVariables false
namespace Go.Proofs.Ytbenpkonepfipaa.Sl
open Go.ChangeShapes Go.WideShapes Go.ChangeAt Go.RowKit
open Go.Proofs.Ytbenpkonepfipaa.Dig Go.Proofs.Ytbenpkonepfipaa.Mem Go.Proofs.Ytbenpkonepfipaa.Rb

theorem doorOffsets (w : World) (a : Option Addr) (m d : Nat) :
    Calls Try.prog 41 #[.slice a m d] w fun e w' => e = .returned (.agg #[.slice none 0 0, .slice a m d]) ∧ Below w.heap.size w w' := by
  go_enter Try.func41, Try.ntmps41
  go_wp2
  go_returns
  exact ⟨rfl, by go_grown⟩

theorem idle40 (p q : Addr) (w : World) :
    CallsD Try.prog 40 #[.pointer (some p), .pointer (some q)] .returning w fun e u' w' => e = .returned (.tuple #[]) ∧ u' = .returning ∧ w' = w := by
  refine callsD_of_wpS Try.func40 rfl fun c₀ cs hu => ?_
  apply wpS_seq
  apply wpS_region
  simp [wpOpsS, go_sem, recoverD, hu, Try.ntmps40, Exit.thenS]
  refine wpS_cond (t := false) (by simp [Act.eval, Array.replicate]) ?_
  simp only [Bool.false_eq_true, if_false]
  refine wpS_of_wp (wp_skip ?_)
  cases c₀
  simp_all [bodyPostS, results, Try.results40]

theorem sliceAt (w : World) (a a' : Option Addr) (n c m d i lo hi : Nat) (os : List Nat) (ho : RB w a' m d os) (hn : n ≤ 4000) (hnc : n ≤ c) (hm : m ≤ 200) (hm2 : m % 2 = 0) (him : i * 2 ≤ m)
    (hlo : lo = if i = 0 then 0 else off os (i - 1)) (hhi : hi = if i * 2 < m then off os i else n) (h1 : lo ≤ hi) (h2 : hi ≤ n) :
    Calls Try.prog 20 #[.slice a n c, .slice a' m d, .int .i64 (i : Int)] w fun e w' => e = .returned (.tuple #[.slice (cutA a c lo) (hi - lo) (c - lo), .bool true]) ∧ Below w.heap.size w w' := by
  have hmf : ∀ (fn : Fn) (first cap : Array Value) (w : World), (Instr.makeFunc fn first cap).run Try.prog w = .ok (.func fn first cap) w := fun _ _ _ _ => rfl
  have hB : w.heap.size + 1 ≠ w.heap.size := by omega
  have K42 : ∀ w', Below w.heap.size w w' → Calls Try.prog 42 #[.agg #[.slice a n c, .slice a' m d], .int .i64 (i : Int)] w' fun e w'' => e = .returned (.slice (cutA a c lo) (hi - lo) (c - lo)) ∧ Below w'.heap.size w' w'' := fun w' hb =>
    getSlice w' a a' n c m d i lo hi os (ho.below hb (Nat.le_refl _)) hn hnc hm hm2 him hlo hhi h1 h2
  have K := Lib.hid K42
  clear K42 ho hlo hhi h1 h2
  have T0 := Lib.hid (two_start w 27 4 (.slice none 0 0) (.bool false))
  go_enter_defers Try.func20, Try.ntmps20
  go_wp2_with (first
    | (go_at_call 41; (with_reducible refine (doorOffsets _ _ _ _).mono ?_); rintro e w1 ⟨rfl, hb1⟩; have T1 := Lib.hid (T0.out.later hb1))
    | (go_at_call 42; (with_reducible refine (K.out _ ((T1.out.alloc _).below)).mono ?_); rintro e w2 ⟨rfl, hb2⟩; have T2 := Lib.hid ((T1.out.alloc _).later hb2); obtain ⟨c0, c1, f0, f1⟩ := T2.out.facts))
  have T3 := (T2.out.set0 (.slice (cutA a c lo) (hi - lo) (c - lo))).set1 (.bool true)
  obtain ⟨g0, g1, _, _⟩ := T3.facts
  have hbel := T3.below
  refine leaves_cons (f := 40) (args := #[.pointer (some ⟨w.heap.size, 0, none⟩), .pointer (some ⟨w.heap.size + 1, 0, none⟩)]) (by simp) (by simp [go_sem]) ?_
  refine (idle40 _ _ _).mono ?_
  rintro e u' w'' ⟨rfl, rfl, rfl⟩
  simp [Leaves, settle, results, Try.results20, go_sem, g0, g1]
  exact hbel
end Go.Proofs.Ytbenpkonepfipaa.Sl
