/- The message of a map's node, behind its door, walked. Condition: at most 200 items, 20000 bytes. -/
import Derived.Test.YtegohkgmamnkdaaGreatSerI
import Derived.Test.YtegohkgmamnkdaaGreatTold
import Derived.Recover
import Derived.Defers
set_option linter.unusedVariables false
namespace Go.Proofs.YtegohkgmamnkdaaGreat.Msg
open Go.ChangeShapes Go.WideShapes Go.ChangeAt Go.RowKit
open Go.Proofs.YtegohkgmamnkdaaGreat.Dig Go.Proofs.YtegohkgmamnkdaaGreat.Mem Go.Proofs.YtegohkgmamnkdaaGreat.Rb
open Go.Proofs.YtegohkgmamnkdaaGreat.Cnt (encs enc Nums64)

/-- What makes a map's node. -/
structure NodeM (w : World) (a b d : Option Addr) (m c c' k ck : Nat) (fs gs : List Fld) (ls : List Nat) (lv : Nat) : Prop where
  keys : Flds w a m c fs
  vals : Flds w b m c' gs
  hm : m ≤ 200
  hm0 : 0 < m
  kb : total fs ≤ 20010
  vb : total gs ≤ 20010
  hk : ls.length = k
  kck : k ≤ ck
  ckt : ck ≤ maxLen
  nums : Nums64 w d ls
  lb : ∀ x ∈ ls, x ≤ 2199023255552
  lv0 : lv = 0 → k = 0
  lv1 : 0 < lv → k = m
  lv2 : lv ≤ 255
theorem NodeM.below {w w' : World} {a b d : Option Addr} {m c c' k ck : Nat} {fs gs : List Fld} {ls : List Nat} {lv : Nat} (h : NodeM w a b d m c c' k ck fs gs ls lv) (hb : Below w.heap.size w w') : NodeM w' a b d m c c' k ck fs gs ls lv :=
  ⟨h.keys.below hb, h.vals.below hb, h.hm, h.hm0, h.kb, h.vb, h.hk, h.kck, h.ckt, fun h0 => by
    obtain ⟨b, o, e, hlt, hcc⟩ := h.nums h0
    exact ⟨b, o, e, Nat.lt_of_lt_of_le hlt hb.size, fun i hi => (hb.cell (p := ⟨b, o + i, none⟩) hlt).trans (hcc i hi)⟩, h.lb, h.lv0, h.lv1, h.lv2⟩
theorem serMap (w : World) (a b d : Option Addr) (m c c' k ck : Nat) (fs gs : List Fld) (ls : List Nat) (lv : Nat) (h : NodeM w a b d m c c' k ck fs gs ls lv) :
    Calls Tryz.prog 18 #[.agg #[.iface 48 (.int .u8 0)], .slice a m c, .slice b m c', .slice d k ck, .int .i64 (lv : Int)] w fun e w' => ∃ g o L cc, e = .returned (.slice (some ⟨g, o, none⟩) L cc) ∧ RB w' (some ⟨g, o, none⟩) L cc (msgMap fs gs ls m lv) ∧ w.heap.size ≤ g ∧ Below w.heap.size w w' := by
  rcases Nat.eq_zero_or_pos lv with h0 | h0
  · have hk := h.lv0 h0
    subst h0
    subst hk
    have hl : ls = [] := List.length_eq_zero_iff.1 h.hk
    subst hl
    exact serLeaf w a b d m c c' ck _ _ fs gs h.keys h.vals h.hm h.hm0 rfl rfl h.kb h.vb h.ckt
  · have hk := h.lv1 h0
    subst hk
    exact serInn w a b d k c c' ck _ _ lv fs gs ls h.keys h.vals h.hm h.hm0 rfl rfl h.kb h.vb h.ckt h.kck h.hk h.lb h.nums h0 h.lv2

/-- The message told. -/
theorem msgTold {w : World} {a b d : Option Addr} {m c c' k ck : Nat} {fs gs : List Fld} {ls : List Nat} {lv : Nat} (h : NodeM w a b d m c c' k ck fs gs ls lv) :
    (lv = 0 → MapTold (msgMap fs gs ls m lv) fs gs m 3 4 (m - 1) m lv 10 (ofb gs 1 (m - 1))) ∧ (0 < lv → MapTold (msgMap fs gs ls m lv) fs gs m 7 8 (encs 0 ls).length (sumU ls) lv 11 (encs 0 ls)) := by
  have hm := h.hm
  have hkb := h.kb
  have hvb := h.vb
  have x2 := valsX_le (m := m) h.keys.ok h.vals.ok
  refine ⟨fun h0 => ?_, fun h0 => ?_⟩
  · subst h0
    have x3 := leafX_le (m := m) h.keys.ok h.vals.ok
    unfold msgMap
    rw [if_pos rfl]
    exact mapTold fs gs m 3 4 m 0 8 10 (m - 1) (leafX fs gs m) (ofb gs 1 (m - 1)) _ (Or.inl ⟨rfl, rfl⟩) (suf_offv gs m _) (by omega) rfl (by omega) rfl (by omega) (by omega) (Or.inr rfl) hm
  · have x3 := innX_le (ls := ls) (m := m) h.keys.ok h.vals.ok
    have hE := Cnt.encs_length 0 ls
    have hk := h.hk
    have hk1 := h.lv1 h0
    have hlv := h.lv2
    have hsu : sumU ls ≤ 2199023255552 * 200 := Nat.le_trans (sumU_le h.lb) (by rw [hk]; exact Nat.mul_le_mul_left _ (by omega))
    unfold msgMap
    rw [if_neg (by omega)]
    exact mapTold fs gs m 7 8 (sumU ls) lv (if sumU ls = 0 then 4 else 8) 11 (encs 0 ls).length (innX fs gs ls m) (encs 0 ls) _ (Or.inr ⟨rfl, rfl⟩) (suf_vec (encs 0 ls) _) (by omega) rfl (by omega) (by rw [if_neg (by omega)]) (by omega) (by omega) (by split <;> simp) hm

theorem idleM (p q : Addr) (w : World) :
    CallsD Tryz.prog 17 #[.pointer (some p), .pointer (some q)] .returning w fun e u' w' => e = .returned (.tuple #[]) ∧ u' = .returning ∧ w' = w := by
  refine callsD_of_wpS Tryz.func17 rfl fun c₀ cs hu => ?_
  apply wpS_seq
  apply wpS_region
  simp [wpOpsS, go_sem, recoverD, hu, Tryz.ntmps17, Exit.thenS]
  refine wpS_cond (t := false) (by simp [Act.eval, Array.replicate]) ?_
  simp only [Bool.false_eq_true, if_false]
  refine wpS_of_wp (wp_skip ?_)
  cases c₀
  simp_all [bodyPostS, results, Tryz.results17]

theorem rb_set {w : World} {g o n c : Nat} {xs : List Nat} (h : RB w (some ⟨g, o, none⟩) n c xs) (b : Nat) (v : Value) (hb : b ≠ g) : RB (w.setCell ⟨b, 0, none⟩ v) (some ⟨g, o, none⟩) n c xs :=
  rb_wr (S := [b]) h (Wr.setCell _ _ (by simp)) (fun b' o' e => by injection e with e; injection e with e1 _; subst e1; simpa using Ne.symm hb)

set_option maxRecDepth 100000 in
theorem mapMessage (w : World) (a b d : Option Addr) (m c c' k ck : Nat) (fs gs : List Fld) (ls : List Nat) (lv : Nat) (h : NodeM w a b d m c c' k ck fs gs ls lv) :
    Calls Tryz.prog 10 #[.slice a m c, .slice b m c', .slice d k ck, .int .i64 (lv : Int)] w fun e w' => ∃ g o L cc, e = .returned (.tuple #[.slice (some ⟨g, o, none⟩) L cc, .bool true]) ∧ RB w' (some ⟨g, o, none⟩) L cc (msgMap fs gs ls m lv) ∧ w.heap.size ≤ g ∧ Below w.heap.size w w' := by
  have hmf : ∀ (fn : Fn) (first cap : Array Value) (w : World), (Instr.makeFunc fn first cap).run Tryz.prog w = .ok (.func fn first cap) w := fun _ _ _ _ => rfl
  have hB : w.heap.size + 1 ≠ w.heap.size := by omega
  have T0 := Lib.hid (two_start w 26 4 (.slice none 0 0) (.bool false))
  have K := Lib.hid (serMap _ a b d m c c' k ck fs gs ls lv (h.below T0.out.below))
  have hlv := h.lv2
  have hkc := h.kck
  have hkt := h.ckt
  have hmc := h.keys.le
  have hmt := h.keys.top
  have hmc' := h.vals.le
  have hmt' := h.vals.top
  unfold maxLen at hkt hmt hmt'
  clear h
  go_enter_defers Tryz.func10, Tryz.ntmps10
  go_wp2_with (first
    | (go_at_call 13; (with_reducible refine (newBuffPool _).mono ?_); rintro e w0' ⟨rfl, rfl⟩)
    | (go_at_call 18; (with_reducible refine K.out.mono ?_); rintro e w1 ⟨g, o, L, cc, rfl, hr, hg, hb1⟩; have HG := Lib.hid hg; clear hg; have T1 := Lib.hid (T0.out.later hb1); have HR := Lib.hid hr; clear hr; obtain ⟨c0, c1, f0, f1⟩ := T1.out.facts))
  have T2 := (T1.out.set0 (.slice (some ⟨g, o, none⟩) L cc)).set1 (.bool true)
  obtain ⟨g0, g1, _, _⟩ := T2.facts
  have hbel := T2.below
  have hg : w.heap.size + 2 ≤ g := by have := HG.out; simpa using this
  have hr2 := rb_set (rb_set HR.out w.heap.size (.slice (some ⟨g, o, none⟩) L cc) (by omega)) (w.heap.size + 1) (.bool true) (by omega)
  refine leaves_cons (f := 17) (args := #[.pointer (some ⟨w.heap.size, 0, none⟩), .pointer (some ⟨w.heap.size + 1, 0, none⟩)]) (by simp) (by simp [go_sem]) ?_
  refine (idleM _ _ _).mono ?_
  rintro e u' w'' ⟨rfl, rfl, rfl⟩
  simp only [Leaves, settle]
  refine ⟨.tuple #[.slice (some ⟨g, o, none⟩) L cc, .bool true], ?_, g, o, L, cc, rfl, hr2, by omega, hbel⟩
  simp [results, Tryz.results10, go_sem, g0, g1]
end Go.Proofs.YtegohkgmamnkdaaGreat.Msg
