/- A tuple's parts, walked. Conditions: it is the tuple of at most 200 fields, 20000 bytes. -/
import Derived.Test.YtgogeonbamheoaaTup11
import Derived.Deep.AppendLies
import Derived.Deep.RegionHeld3
import Derived.Deep.RegionLaw
set_option linter.unusedVariables false
namespace Go.Proofs.Ytgogeonbamheoaa.Tup
open Go.ChangeShapes Go.WideShapes Go.ChangeAt Go.RowKit
open Go.Proofs.Ytgogeonbamheoaa.Dig Go.Proofs.Ytgogeonbamheoaa.Mem Go.Proofs.Ytgogeonbamheoaa.Rb Go.Proofs.Ytgogeonbamheoaa.Sl Go.Proofs.Ytgogeonbamheoaa.Tri

theorem idle25 (p q : Addr) (w : World) :
    CallsD Try.prog 25 #[.pointer (some p), .pointer (some q)] .returning w fun e u' w' => e = .returned (.tuple #[]) ∧ u' = .returning ∧ w' = w := by
  refine callsD_of_wpS Try.func25 rfl fun c₀ cs hu => ?_
  apply wpS_seq
  apply wpS_region
  simp [wpOpsS, go_sem, recoverD, hu, Try.ntmps25, Exit.thenS]
  refine wpS_cond (t := false) (by simp [Act.eval, Array.replicate]) ?_
  simp only [Bool.false_eq_true, if_false]
  refine wpS_of_wp (wp_skip ?_)
  cases c₀
  simp_all [bodyPostS, results, Try.results25]

theorem row_later {w w' : World} {B n : Nat} {e : TypeId} {v : Value} {xs : List Value} (h : w.ownsRow B e 1 v n xs) (hb : Below w.heap.size w w') : w'.ownsRow B e 1 v n xs := by
  refine ⟨h.1, ?_⟩
  rcases h.2 with h0 | ⟨g, cap, cur, hv, hB, hh, hr⟩
  · exact Or.inl h0
  · have hlt : g < w.heap.size := by
      rcases Nat.lt_or_ge g w.heap.size with h' | h'
      · exact h'
      · rw [Array.getElem?_eq_none h'] at hh; cases hh
    exact Or.inr ⟨g, cap, cur, hv, hB, (hb.block g hlt).trans hh, hr⟩
theorem row_set {w : World} {B n b : Nat} {e : TypeId} {v u : Value} {xs : List Value} (h : w.ownsRow B e 1 v n xs) (hb : b < B) : (w.setCell ⟨b, 0, none⟩ u).ownsRow B e 1 v n xs := by
  refine ⟨h.1, ?_⟩
  rcases h.2 with h0 | ⟨g, cap, cur, hv, hB, hh, hr⟩
  · exact Or.inl h0
  · refine Or.inr ⟨g, cap, cur, hv, hB, ?_, hr⟩
    have : b ≠ g := by omega
    simpa [World.setCell, Array.getElem?_modify, this] using hh
theorem two_later2 {w0 w w' : World} {t u : TypeId} {x y : Value} (h : Two w0 w t u x y) (hb : Below (w0.heap.size + 2) w w') : Two w0 w' t u x y := by
  obtain ⟨h1, h2, h3, h4⟩ := h
  exact ⟨(hb.block _ (by omega)).trans h1, (hb.block _ (by omega)).trans h2, h3.trans (hb.mono (by omega)), Nat.lt_of_lt_of_le h4 hb.size⟩
theorem Two.lt {w0 w : World} {t u : TypeId} {x y : Value} (h : Two w0 w t u x y) : w0.heap.size + 2 ≤ w.heap.size := h.2.2.2

def partF (fs : List Fld) (b N i : Nat) : Fld :=
  if (fs.getD i nof).n = 0 then ⟨none, 0, 0, []⟩ else ⟨some ⟨b, total (fs.take i), none⟩, (fs.getD i nof).n, N - total (fs.take i), (fs.getD i nof).xs⟩
theorem partF_v (fs : List Fld) (b N i : Nat) : (partF fs b N i).v = part fs b N i := by
  unfold partF part
  split <;> rfl
theorem info22 : (Try.prog.info? 22).map (fun i => (i.zero, i.size, i.bytes)) = some (some (.slice none 0 0), 1, 24) := by kernel_rfl

set_option maxRecDepth 100000 in
set_option maxHeartbeats 1000000 in
theorem tupleParts (w : World) (b N E n T : Nat) (fs : List Fld) (hr : RB w (some ⟨b, 0, none⟩) N N (tup fs n)) (hl : ∀ f ∈ fs, f.xs.length = f.n) (hfl : fs.length = n) (hT : T = total fs) (hE : E = T + offs n) (hN : N = E + 2) (hn : n ≤ 200) (hTb : T ≤ 20000) :
    Calls Try.prog 11 #[.slice (some ⟨b, 0, none⟩) N N] w fun x w' => ∃ v, x = .returned (.tuple #[v, .bool true]) ∧ w'.ownsRow (w.heap.size + 2) 22 1 v n ((List.range n).map (part fs b N)) ∧ Below w.heap.size w w' := by
  have hmf : ∀ (fn : Fn) (first cap : Array Value) (w : World), (Instr.makeFunc fn first cap).run Try.prog w = .ok (.func fn first cap) w := fun _ _ _ _ => rfl
  have hB : w.heap.size + 1 ≠ w.heap.size := by omega
  have T0 := Lib.hid (two_start w 30 4 (.slice none 0 0) (.bool false))
  have HR := Lib.hid fun w' (hb : Below w.heap.size w w') => hr.below hb (Nat.le_refl _)
  have K26 := Lib.hid fun w' (hb : Below w.heap.size w w') => count w' b 0 E N n (cat fs ++ ofk fs n) (by rw [← hN]; exact hr.below hb (Nat.le_refl _)) (by have := hr.len; unfold tup at this; rw [List.length_append] at this; simp only [pr, List.length_cons, List.length_nil] at this; omega) (by omega) (by rw [hE]; unfold offs; omega)
  rw [← hN] at K26
  have K27 := Lib.hid fun w' i (hb : Below w.heap.size w w') hi => getField w' b N E n i T fs (hr.below hb (Nat.le_refl _)) hl hfl hT hE hN hi hn hTb
  obtain ⟨i22, hi22, hz0, hz1, hz2⟩ := info_parts info22
  clear hr hl hfl hT hE hN
  go_enter_defers Try.func11, Try.ntmps11
  go_wp2_with fail
  go_loopw [4] (fun iv wr => ∃ (k : Nat) (v : Value), k ≤ n ∧ iv = .int .i64 (k : Int) ∧ wr.ownsRow (w.heap.size + 2) 22 1 v k ((List.range k).map (part fs b N)) ∧ Two w wr 30 4 v (.bool false)) (fun iv _ => n - (intOf iv).toNat)
  case atStart => exact ⟨0, .slice none 0 0, by omega, rfl, World.ownsRow_nil _ _ _ _, T0.out⟩
  case round =>
    obtain ⟨k, v, hk, rfl, hO, hT⟩ := hrel
    have O1 := Lib.hid hO
    have T1 := Lib.hid hT
    have K := Lib.hid (K26.out _ hT.below)
    clear hO hT
    by_cases hlt : k < n
    · have hki : (k : Int) < (n : Int) := by omega
      go_wp2_with (go_at_call 26; (with_reducible refine K.out.mono ?_); rintro e w1 ⟨rfl, hb1⟩; have O2 := Lib.hid (row_later O1.out hb1); have T2 := Lib.hid (T1.out.later hb1); clear hb1)
      obtain ⟨pa, pn, pc, hpv⟩ : ∃ pa pn pc, .slice pa pn pc = part fs b N k := by unfold part; split <;> exact ⟨_, _, _, rfl⟩
      have K2 := K27.out w1.drew k (Below.drew T2.out.below) hlt
      rw [← hpv] at K2
      have K2 := Lib.hid K2
      have hlist : (List.range k).map (part fs b N) ++ [.slice pa pn pc] = (List.range (k + 1)).map (part fs b N) := by rw [List.range_succ, List.map_append, hpv]; rfl
      have HL := Lib.hid hlist
      have hwB := Two.lt T2.out
      obtain ⟨c0, c1, f0, f1⟩ := T2.out.facts
      clear hlist hpv
      refine wp_region_noPanic ?_
      go_region_law (first
        | (go_simp; go_at_call 27; refine K2.out.mono ?_; rintro e w2 ⟨rfl, hb2⟩; have T3 := Lib.hid (T2.out.later (show Below w1.heap.size w1 w2 from ⟨hb2.os, hb2.tape, hb2.output, hb2.size, hb2.block⟩)); have O3 := Lib.hid (row_later O2.out (show Below w1.heap.size w1 w2 from ⟨hb2.os, hb2.tape, hb2.output, hb2.size, hb2.block⟩)); clear hb2; obtain ⟨d0, d1, g0, g1⟩ := T3.out.facts; have hw2 := Two.lt T3.out; have dA := fun O => (T3.out.alloc O).facts.1)
        | (refine step_append_lies _ rfl (.tmp 12) (.tmp 16) 30 rfl (w.heap.size + 2) 22 i22 (.slice none 0 0) 1 24 Try.underlying30 hi22 hz0 hz1 hz2 rfl (by decide) v k ((List.range k).map (part fs b N)) (by simp [Act.eval]) (by exact O3.out.alloc _) ⟨w2.heap.size, 0, none⟩ 1 1 [.slice pa pn pc] (by simp [Act.eval]) rfl (by exact cell_one_new _ _ _) (by simp [Value.oneCell']) (by decide) (by unfold maxLen; omega) (by omega) (by simp; omega) _ rfl ?_; intro g cap w3 hown hgrow hat hlt3; have T4 := Lib.hid (two_later2 (T3.out.alloc _) ((Below.refl _ _).grown hgrow (by simp; omega) (fun j hj => (O3.out.lt j hj).1))); have O4 := Lib.hid hown; clear hown hgrow hat; obtain ⟨e0, e1, h0, h1⟩ := T4.out.facts))
      all_goals refine NoPanic.normal ?_
      all_goals go_wp2_with fail
      all_goals go_roundw
      all_goals first
        | exact ⟨k + 1, .slice (some ⟨g, 0, none⟩) (k + 1) cap, by omega, by go_num, by rw [← HL.out]; exact row_set O4.out (by omega), T4.out.set0 _⟩
        | (simp [intOf]; omega)
    · obtain rfl : k = n := by omega
      obtain ⟨va, vc, hv⟩ := Tri.own_form O1.out
      subst hv
      go_wp2_with (go_at_call 26; (with_reducible refine K.out.mono ?_); rintro e w1 ⟨rfl, hb1⟩; have O2 := Lib.hid (row_later O1.out hb1); have T2 := Lib.hid (T1.out.later hb1); clear hb1; obtain ⟨c0, c1, f0, f1⟩ := T2.out.facts)
      have T3 := (T2.out.set0 (.slice va k vc)).set1 (.bool true)
      have O3 := row_set (row_set O2.out (show w.heap.size < w.heap.size + 2 by omega) (u := .slice va k vc)) (show w.heap.size + 1 < w.heap.size + 2 by omega) (u := .bool true)
      obtain ⟨g0, g1, _, _⟩ := T3.facts
      have hbel := T3.below
      refine leaves_cons (f := 25) (args := #[.pointer (some ⟨w.heap.size, 0, none⟩), .pointer (some ⟨w.heap.size + 1, 0, none⟩)]) (by simp) (by simp [go_sem]) ?_
      refine (idle25 _ _ _).mono ?_
      rintro e u' w'' ⟨rfl, rfl, rfl⟩
      simp only [Leaves, settle]
      refine ⟨.tuple #[.slice va k vc, .bool true], ?_, _, rfl, O3, hbel⟩
      simp [results, Try.results11, go_sem, g0, g1]
end Go.Proofs.Ytgogeonbamheoaa.Tup
