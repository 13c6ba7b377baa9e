/- The message of a node of names behind its door, walked; what it tells is what it was made of. Condition: at most 200 items, 20000 bytes. -/
import Derived.Test.YtegohkgmamnkdaaGreatSrA
import Derived.Test.YtegohkgmamnkdaaGreatRdR
import Derived.Test.YtegohkgmamnkdaaGreatLaw
set_option linter.unusedVariables false
namespace Go.Proofs.YtegohkgmamnkdaaGreat.Msg
open Go.ChangeShapes Go.WideShapes Go.ChangeAt Go.RowKit
open Go.Proofs.YtegohkgmamnkdaaGreat.Dig Go.Proofs.YtegohkgmamnkdaaGreat.Mem Go.Proofs.YtegohkgmamnkdaaGreat.Rb
open Go.Proofs.YtegohkgmamnkdaaGreat.Cnt (encs enc Nums64)

theorem serAdr (w : World) (a b d : Option Addr) (m c c' k ck : Nat) (fs gs : List Fld) (ls : List Nat) (lv : Nat) (h : NodeM w a b d m c c' k ck fs gs ls lv) :
    Calls Tryz.prog 14 #[.agg #[.iface 48 (.int .u8 0)], .slice a m c, .slice b m c', .slice d k ck, .int .i64 (lv : Int)] w fun e w' => ∃ g o L cc, e = .returned (.slice (some ⟨g, o, none⟩) L cc) ∧ RB w' (some ⟨g, o, none⟩) L cc (msgAdr fs gs ls m lv) ∧ w.heap.size ≤ g ∧ Below w.heap.size w w' := by
  rcases Nat.eq_zero_or_pos lv with h0 | h0
  · have hk := h.lv0 h0
    subst h0
    subst hk
    have hl : ls = [] := List.length_eq_zero_iff.1 h.hk
    subst hl
    exact serAL w a b d m c c' ck _ _ fs gs h.keys h.vals h.hm h.hm0 rfl rfl h.kb h.vb h.ckt
  · have hk := h.lv1 h0
    subst hk
    exact serAI w a b d k c c' ck _ _ lv fs gs ls h.keys h.vals h.hm h.hm0 rfl rfl h.kb h.vb h.ckt h.kck h.hk h.lb h.nums h0 h.lv2

theorem idleA (p q : Addr) (w : World) :
    CallsD Tryz.prog 12 #[.pointer (some p), .pointer (some q)] .returning w fun e u' w' => e = .returned (.tuple #[]) ∧ u' = .returning ∧ w' = w := by
  refine callsD_of_wpS Tryz.func12 rfl fun c₀ cs hu => ?_
  apply wpS_seq
  apply wpS_region
  simp [wpOpsS, go_sem, recoverD, hu, Tryz.ntmps12, Exit.thenS]
  refine wpS_cond (t := false) (by simp [Act.eval, Array.replicate]) ?_
  simp only [Bool.false_eq_true, if_false]
  refine wpS_of_wp (wp_skip ?_)
  cases c₀
  simp_all [bodyPostS, results, Tryz.results12]

set_option maxRecDepth 100000 in
theorem adrMessage (w : World) (a b d : Option Addr) (m c c' k ck : Nat) (fs gs : List Fld) (ls : List Nat) (lv : Nat) (h : NodeM w a b d m c c' k ck fs gs ls lv) :
    Calls Tryz.prog 7 #[.slice a m c, .slice b m c', .slice d k ck, .int .i64 (lv : Int)] w fun e w' => ∃ g o L cc, e = .returned (.tuple #[.slice (some ⟨g, o, none⟩) L cc, .bool true]) ∧ RB w' (some ⟨g, o, none⟩) L cc (msgAdr fs gs ls m lv) ∧ w.heap.size ≤ g ∧ Below w.heap.size w w' := by
  have hmf : ∀ (fn : Fn) (first cap : Array Value) (w : World), (Instr.makeFunc fn first cap).run Tryz.prog w = .ok (.func fn first cap) w := fun _ _ _ _ => rfl
  have hB : w.heap.size + 1 ≠ w.heap.size := by omega
  have T0 := Lib.hid (two_start w 26 4 (.slice none 0 0) (.bool false))
  have K := Lib.hid (serAdr _ a b d m c c' k ck fs gs ls lv (h.below T0.out.below))
  have hlv := h.lv2
  have hkc := h.kck
  have hkt := h.ckt
  have hmc := h.keys.le
  have hmt := h.keys.top
  have hmc' := h.vals.le
  have hmt' := h.vals.top
  unfold maxLen at hkt hmt hmt'
  clear h
  go_enter_defers Tryz.func7, Tryz.ntmps7
  go_wp2_with (first
    | (go_at_call 13; (with_reducible refine (newBuffPool _).mono ?_); rintro e w0' ⟨rfl, rfl⟩)
    | (go_at_call 14; (with_reducible refine K.out.mono ?_); rintro e w1 ⟨g, o, L, cc, rfl, hr, hg, hb1⟩; have HG := Lib.hid hg; clear hg; have T1 := Lib.hid (T0.out.later hb1); have HR := Lib.hid hr; clear hr; obtain ⟨c0, c1, f0, f1⟩ := T1.out.facts))
  have T2 := (T1.out.set0 (.slice (some ⟨g, o, none⟩) L cc)).set1 (.bool true)
  obtain ⟨g0, g1, _, _⟩ := T2.facts
  have hbel := T2.below
  have hg : w.heap.size + 2 ≤ g := by have := HG.out; simpa using this
  have hr2 := rb_set (rb_set HR.out w.heap.size (.slice (some ⟨g, o, none⟩) L cc) (by omega)) (w.heap.size + 1) (.bool true) (by omega)
  refine leaves_cons (f := 12) (args := #[.pointer (some ⟨w.heap.size, 0, none⟩), .pointer (some ⟨w.heap.size + 1, 0, none⟩)]) (by simp) (by simp [go_sem]) ?_
  refine (idleA _ _ _).mono ?_
  rintro e u' w'' ⟨rfl, rfl, rfl⟩
  simp only [Leaves, settle]
  refine ⟨.tuple #[.slice (some ⟨g, o, none⟩) L cc, .bool true], ?_, g, o, L, cc, rfl, hr2, by omega, hbel⟩
  simp [results, Tryz.results7, go_sem, g0, g1]

theorem mess_ofA {w : World} {g o L cc m cnt lv t : Nat} {T : List Nat} {fs gs : List Fld} {ls : List Nat} (h : RB w (some ⟨g, o, none⟩) L cc T) (M : AdrTold T fs gs ls m cnt lv t) (ht : t ≤ 20) : Mess w g o L cc t T fidAdr := by
  obtain ⟨vs, xs, mg⟩ := M.mg
  have hl := h.len
  have := M.top
  have := mg.vt
  have := mg.pos4
  exact ⟨h, by omega, mg.msgy ht, mg.fidAt, by omega⟩
theorem toldAdr {w : World} {g o L cc m c c' k ck lv : Nat} {a b d : Option Addr} {fs gs : List Fld} {ls : List Nat} (h : NodeM w a b d m c c' k ck fs gs ls lv) (k0 : 0 < total fs) (v20 : ∀ x ∈ gs, x.n = 20) (hR : RB w (some ⟨g, o, none⟩) L cc (msgAdr fs gs ls m lv)) :
    Calls Tryz.prog 9 #[.slice (some ⟨g, o, none⟩) L cc, .slice a m c, .slice b m c', .slice d k ck, .int .i64 (lv : Int), .bool true] w fun e w' => e = .returned (.bool true) ∧ Below w.heap.size w w' := by
  have M := msgToldA h
  have hm := h.hm
  rcases Nat.eq_zero_or_pos lv with h0 | h0
  · subst h0
    have M0 := M.1 rfl
    have hk := h.lv0 rfl
    subst hk
    exact vaToldN (rdrA M0 h.keys.ok h.vals.ok v20 h.keys.len h.vals.len h.hm h.hm0 k0 h.kb (by omega) (by omega) (fun h => absurd h (by omega)) h.lb) (mess_ofA hR M0 (by omega)) h.keys h.vals h.hm h.hm0 h.kck h.ckt (fun i hi => chunk_cat h.vals.ok h.vals.len v20 hi)
  · have M0 := M.2 h0
    have hk := h.lv1 h0
    subst hk
    have hsu : sumU ls ≤ 2199023255552 * 200 := Nat.le_trans (sumU_le h.lb) (by rw [h.hk]; exact Nat.mul_le_mul_left _ (by omega))
    exact vaToldI (rdrA M0 h.keys.ok h.vals.ok v20 h.keys.len h.vals.len h.hm h.hm0 k0 h.kb h.lv2 (by omega) (fun _ => h.hk) h.lb) (mess_ofA hR M0 (by omega)) h.keys h.vals h.hm h.hm0 h.kck h.ckt h0 h.lv2 rfl h.hk h.lb h.nums true (fun i hi => chunk_cat h.vals.ok h.vals.len v20 hi)
end Go.Proofs.YtegohkgmamnkdaaGreat.Msg
