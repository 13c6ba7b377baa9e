/- The numbers of subtrees as bytes, behind their door, walked. Condition: at most 300 numbers. -/
import Derived.Test.YtbenpkonepfipaaCnt4
set_option linter.unusedVariables false
namespace Go.Proofs.Ytbenpkonepfipaa.Cnt
open Go.ChangeShapes Go.WideShapes Go.ChangeAt Go.RowKit
open Go.Proofs.Ytbenpkonepfipaa.Dig Go.Proofs.Ytbenpkonepfipaa.Mem Go.Proofs.Ytbenpkonepfipaa.Rb Go.Proofs.Ytbenpkonepfipaa.Var

theorem encodeVarints (w0 w : World) (g N : Nat) (a : Option Addr) (n c : Nat) (ls : List Nat) (hl : ls.length = n) (hn : n ≤ 300) (hb : ∀ x ∈ ls, x < 18446744073709551616) (hc : Nums64 w0 a ls) (hN : N = (n + 1) * 10)
    (hO : Own w0 w g (List.replicate N 0)) :
    Calls Try.prog 66 #[.slice a n c, .slice (some ⟨g, 0, none⟩) N N] w fun e w' => ∃ m, e = .returned (.slice (some ⟨g, 0, none⟩) m N) ∧ m ≤ N ∧ m = (encs 0 ls).length ∧ Own w0 w' g (encs 0 ls ++ List.replicate (N - m) 0) := by
  have K := Lib.hid (encodeDeltas w0 w g N a n c ls hl hn hb hc hN hO)
  clear hl hn hb hc hN hO
  go_enter Try.func66, Try.ntmps66
  go_wp2_with (go_at_call 73; (with_reducible refine K.out.mono ?_); rintro e w1 ⟨m, rfl, h1, h2, h3⟩; have H2 := Lib.hid h2; have H3 := Lib.hid h3; clear h2 h3)
  go_ret
  exact ⟨m, rfl, h1, H2.out, H3.out⟩

theorem maxSize (w : World) (n N : Nat) (hN : N = (n + 1) * 10) (hn : n ≤ 300) : Calls Try.prog 67 #[.int .i64 (n : Int)] w fun e w' => e = .returned (.int .i64 (N : Int)) ∧ w = w' := by
  have hs : ((n : Int) + 1) * 10 = (N : Int) := by omega
  clear hN
  go_enter Try.func67, Try.ntmps67
  go_wp2
  go_ret
  exact ⟨rfl, rfl⟩

theorem made_bs (n : Nat) : madeCells #[Value.int .u8 0] n = (bs (List.replicate n 0)).toArray := by
  apply Array.toList_inj.1
  rw [toList_madeCells_one]
  simp [bs]

theorem doorEncode (w : World) (a : Option Addr) (n c N : Nat) (ls : List Nat) (hl : ls.length = n) (hn : n ≤ 300) (hb : ∀ x ∈ ls, x < 18446744073709551616) (hc : Nums64 w a ls) (hN : N = (n + 1) * 10) :
    Calls Try.prog 48 #[.slice a n c] w fun e w' => ∃ m, e = .returned (.slice (some ⟨w.heap.size, 0, none⟩) m N) ∧ m ≤ N ∧ m = (encs 0 ls).length ∧ Own w w' w.heap.size (encs 0 ls ++ List.replicate (N - m) 0) := by
  have T0 : Own w (w.alloc (.cells (bs (List.replicate N 0)).toArray 5)) w.heap.size (List.replicate N 0) := ⟨heap_alloc_new _ _, (Below.refl _ _).alloc (Nat.le_refl _) _, Nat.le_refl _⟩
  have K66 := Lib.hid (encodeVarints w _ w.heap.size N a n c ls hl hn hb hc hN T0)
  have K67 := Lib.hid (maxSize w n N hN hn)
  have hNb : N ≤ 3010 := by omega
  obtain ⟨i5, hi, hz0, hz1, hz2⟩ := info_parts info5
  clear T0 hl hb hc hN
  go_enter Try.func48, Try.ntmps48
  go_wp2_with (first
    | (go_at_call 67; (with_reducible refine K67.out.mono ?_); rintro e w1 ⟨rfl, rfl⟩)
    | (at_make; refine wpList_make_row _ rfl _ _ 27 rfl 5 i5 (.int .u8 0) Try.underlying27 hi hz0 hz1 rfl .i64 .i64 N rfl rfl (by rw [hz2]; omega) (by omega) ?_; rw [made_bs])
    | (go_at_call 66; (with_reducible refine K66.out.mono ?_); rintro e w1 ⟨m, rfl, h1, h2, h3⟩; have H2 := Lib.hid h2; have H3 := Lib.hid h3; clear h2 h3))
  go_ret
  exact ⟨m, rfl, h1, H2.out, H3.out⟩

theorem Own.rb {w0 w : World} {g m N r : Nat} {xs : List Nat} (h : Own w0 w g (xs ++ List.replicate r 0)) (hm : m = xs.length) (hN : m ≤ N) (hN2 : N ≤ 1000000) (bx : ∀ x ∈ xs, x < 256) : RB w (some ⟨g, 0, none⟩) m N xs := by
  subst hm
  refine ⟨rfl, hN, by unfold maxLen; omega, bx, fun _ => ⟨g, 0, rfl, fun i hi => ?_⟩⟩
  rw [Nat.zero_add, h.cell (by rw [List.length_append]; omega)]
  simp only [List.getD_eq_getElem?_getD, List.getElem?_append_left hi]

theorem idle47 (p q : Addr) (w : World) :
    CallsD Try.prog 47 #[.pointer (some p), .pointer (some q)] .returning w fun e u' w' => e = .returned (.tuple #[]) ∧ u' = .returning ∧ w' = w := by
  refine callsD_of_wpS Try.func47 rfl fun c₀ cs hu => ?_
  apply wpS_seq
  apply wpS_region
  simp [wpOpsS, go_sem, recoverD, hu, Try.ntmps47, Exit.thenS]
  refine wpS_cond (t := false) (by simp [Act.eval, Array.replicate]) ?_
  simp only [Bool.false_eq_true, if_false]
  refine wpS_of_wp (wp_skip ?_)
  cases c₀
  simp_all [bodyPostS, results, Try.results47]

theorem RB.other {w : World} {g n c : Nat} {xs : List Nat} (h : RB w (some ⟨g, 0, none⟩) n c xs) (b : Nat) (v : Value) (hb : b ≠ g) : RB (w.setCell ⟨b, 0, none⟩ v) (some ⟨g, 0, none⟩) n c xs := by
  refine ⟨h.len, h.le, h.top, h.byte, fun hn => ?_⟩
  obtain ⟨b', o, e, hc⟩ := h.at_ hn
  injection e with e
  injection e with e1 e2
  subst e1
  subst e2
  refine ⟨g, 0, rfl, fun i hi => ?_⟩
  rw [← hc i hi]
  simp [World.cell?, World.setCell, Array.getElem?_modify, hb]

theorem Nums64.below {w w' : World} {a : Option Addr} {cs : List Nat} (h : Nums64 w a cs) (hb : Below w.heap.size w w') : Nums64 w' a cs := fun h0 => by
  obtain ⟨b, o, e, hlt, hc⟩ := h h0
  exact ⟨b, o, e, Nat.lt_of_lt_of_le hlt hb.size, fun i hi => (hb.cell (p := ⟨b, o + i, none⟩) hlt).trans (hc i hi)⟩

theorem counts (w : World) (a : Option Addr) (n c : Nat) (ls : List Nat) (hl : ls.length = n) (hn : n ≤ 300) (hb : ∀ x ∈ ls, x < 18446744073709551616) (hc : Nums64 w a ls) :
    Calls Try.prog 22 #[.slice a n c] w fun e w' => ∃ g m N, e = .returned (.tuple #[.slice (some ⟨g, 0, none⟩) m N, .bool true]) ∧ m ≤ 3010 ∧ N ≤ 3010 ∧ RB w' (some ⟨g, 0, none⟩) m N (encs 0 ls) ∧ Below w.heap.size w w' := by
  have hmf : ∀ (fn : Fn) (first cap : Array Value) (w : World), (Instr.makeFunc fn first cap).run Try.prog w = .ok (.func fn first cap) w := fun _ _ _ _ => rfl
  have hB : w.heap.size + 1 ≠ w.heap.size := by omega
  have T0 := Lib.hid (two_start w 27 4 (.slice none 0 0) (.bool false))
  obtain ⟨N, hN⟩ : ∃ N, N = (n + 1) * 10 := ⟨_, rfl⟩
  have hNb : N ≤ 3010 := by omega
  have K := Lib.hid (doorEncode _ a n c N ls hl hn hb (hc.below T0.out.below) hN)
  clear hl hb hc hN
  go_enter_defers Try.func22, Try.ntmps22
  go_wp2_with (go_at_call 48; (with_reducible refine K.out.mono ?_); rintro e w1 ⟨m, rfl, h1, h2, h3⟩; have H2 := Lib.hid h2; have H3 := Lib.hid h3; clear h2 h3; have T1 := Lib.hid (T0.out.later H3.out.bel); obtain ⟨c0, c1, f0, f1⟩ := T1.out.facts)
  have T2 := (T1.out.set0 (.slice (some ⟨w.heap.size + 1 + 1, 0, none⟩) m N)).set1 (.bool true)
  obtain ⟨g0, g1, _, _⟩ := T2.facts
  have hbel := T2.below
  have hr : RB w1 (some ⟨w.heap.size + 1 + 1, 0, none⟩) m N (encs 0 ls) := by
    have := Own.rb H3.out H2.out h1 (by omega) (encs_byte _ _)
    simpa using this
  have hr2 := RB.other (RB.other hr w.heap.size (.slice (some ⟨w.heap.size + 1 + 1, 0, none⟩) m N) (by omega)) (w.heap.size + 1) (.bool true) (by omega)
  refine leaves_cons (f := 47) (args := #[.pointer (some ⟨w.heap.size, 0, none⟩), .pointer (some ⟨w.heap.size + 1, 0, none⟩)]) (by simp) (by simp [go_sem]) ?_
  refine (idle47 _ _ _).mono ?_
  rintro e u' w'' ⟨rfl, rfl, rfl⟩
  simp only [Leaves, settle]
  refine ⟨.tuple #[.slice (some ⟨w.heap.size + 1 + 1, 0, none⟩) m N, .bool true], ?_, w.heap.size + 1 + 1, m, N, rfl, by omega, hNb, hr2, hbel⟩
  simp [results, Try.results22, go_sem, g0, g1]
end Go.Proofs.Ytbenpkonepfipaa.Cnt
