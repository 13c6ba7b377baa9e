/- A map's message, its keys and values as sliced buffers, walked. Condition: the bytes are a message. -/
import Derived.Test.YtegohkgmamnkdaaGreatRd6
set_option linter.unusedVariables false
namespace Go.Proofs.YtegohkgmamnkdaaGreat.Msg
open Go.ChangeShapes Go.WideShapes Go.ChangeAt Go.RowKit
open Go.Proofs.YtegohkgmamnkdaaGreat.Dig Go.Proofs.YtegohkgmamnkdaaGreat.Mem Go.Proofs.YtegohkgmamnkdaaGreat.Rb

section
variable {w0 w : World} {t u : TypeId} {A B : Array Value}
theorem r2f0 (h : Rows2 w0 w t u A B) (i : Nat) : w.frozen? ⟨w0.heap.size, i, none⟩ = false := free_of_row h.a0 i
theorem r2f1 (h : Rows2 w0 w t u A B) (i : Nat) : w.frozen? ⟨w0.heap.size + 1, i, none⟩ = false := free_of_row h.a1 i
theorem r2c0 (h : Rows2 w0 w t u A B) (i : Nat) : w.cell? ⟨w0.heap.size, i, none⟩ = A[i]? := by simp [World.cell?, h.a0]
theorem r2c1 (h : Rows2 w0 w t u A B) (i : Nat) : w.cell? ⟨w0.heap.size + 1, i, none⟩ = B[i]? := by simp [World.cell?, h.a1]
theorem r2s0 (h : Rows2 w0 w t u A B) (i : Nat) (v : Value) : Rows2 w0 (w.setCell ⟨w0.heap.size, i, none⟩ v) t u (A.setIfInBounds i v) B :=
  ⟨setCell_heap h.a0, by
    simp only [World.setCell, Array.getElem?_modify]
    rw [if_neg (by omega), h.a1], h.bel.setCell (p := ⟨w0.heap.size, i, none⟩) (Nat.le_refl _) v, by have := h.lt; simpa [World.setCell] using this⟩
theorem r2s1 (h : Rows2 w0 w t u A B) (i : Nat) (v : Value) : Rows2 w0 (w.setCell ⟨w0.heap.size + 1, i, none⟩ v) t u A (B.setIfInBounds i v) :=
  ⟨by
    simp only [World.setCell, Array.getElem?_modify]
    rw [if_neg (by omega), h.a0], setCell_heap h.a1, h.bel.setCell (p := ⟨w0.heap.size + 1, i, none⟩) (by show w0.heap.size ≤ w0.heap.size + 1; omega) v, by have := h.lt; simpa [World.setCell] using this⟩
end
theorem Tbl.set {w : World} {t g o L cc b i : Nat} {T : List Nat} (h : Tbl w t g o L cc T) (v : Value) (h1 : b ≠ t) (h2 : b ≠ g) : Tbl (w.setCell ⟨b, i, none⟩ v) t g o L cc T := by
  obtain ⟨⟨ty, hr⟩, hb, ht, hp⟩ := h
  refine ⟨⟨ty, ?_⟩, rb_wr (S := [b]) hb (Wr.setCell _ _ (by simp)) (fun b' o' e => by injection e with e; injection e with e1 _; subst e1; simpa using Ne.symm h2), ht, hp⟩
  simp only [World.setCell, Array.getElem?_modify]
  rw [if_neg h1, hr]
theorem cutA_some (x : Addr) (c lo : Nat) : ∃ ad, cutA (some x) c lo = some ad := by
  unfold cutA
  split
  · exact ⟨_, rfl⟩
  · exact ⟨_, rfl⟩
theorem RB.lt_ {w : World} {g o L cc : Nat} {T : List Nat} (h : RB w (some ⟨g, o, none⟩) L cc T) (h0 : 0 < L) : g < w.heap.size := by
  obtain ⟨b, o', e, hb⟩ := h.at_ h0
  injection e with e
  injection e with e1 e2
  subst e1 e2
  exact lt_of_cell (hb 0 (by rw [h.len]; exact h0))
theorem results_rrt {P : Program} {fn : Func} {p q r : Tmp} {ty : TypeId} (h : fn.results = #[.cell p ty, .cell q ty, .tmp r]) (tmps : Array Value) (w : World) (g g' : Nat) (A B : Array Value) (d : TypeDesc)
    (hp : tmps.getD p undef = .pointer (some ⟨g, 0, none⟩)) (hq : tmps.getD q undef = .pointer (some ⟨g', 0, none⟩)) (hg : w.heap[g]? = some (.cells A ty (0, 0))) (hg' : w.heap[g']? = some (.cells B ty (0, 0))) (hu : P.underlying ty = some d) (hd : (match d with | .struct _ | .array _ _ => true | _ => false) = true)
    (hi : (P.info? ty).map (·.size) = some A.size) (hi' : (P.info? ty).map (·.size) = some B.size) : (results fn tmps).run P w = .ok (.tuple #[.agg A, .agg B, tmps.getD r undef]) w := by
  have hp' : tmps[p]?.getD undef = .pointer (some ⟨g, 0, none⟩) := by simpa using hp
  have hq' : tmps[q]?.getD undef = .pointer (some ⟨g', 0, none⟩) := by simpa using hq
  simp [results, h, hp', hq', asAddr, run_loadVar_row w g ty ty A (0, 0) d hg hu hd hi, run_loadVar_row w g' ty ty B (0, 0) d hg' hu hd hi', Result.andThen, Sem.run_bind]

set_option maxRecDepth 100000 in
set_option maxHeartbeats 2000000 in
theorem kvLeaf {w : World} {g o L cc n ck cv m : Nat} {T id xk yk xv yv : List Nat} (h : Mess w g o L cc n T id) (hcct : cc ≤ 9223372036854775807) (hL : L ≤ cc)
    (V0 : Vec T 0 ck xk) (l0 : xk.length = ck) (c0 : 0 < ck) (b0 : ck ≤ 60000) (V1 : Vec T 1 (m - 1) yk) (l1 : yk.length = 2 * (m - 1)) (hm : m ≤ 200) (hm0 : 0 < m)
    (V3 : Vec T 3 cv xv) (l3 : xv.length = cv) (b3 : cv ≤ 60000) (V4 : Vec T 4 (m - 1) yv) (l4 : yv.length = 2 * (m - 1)) :
    Calls Tryz.prog 106 #[.slice (some ⟨g, o, none⟩) L cc] w fun e w' => e = .returned (.tuple #[.agg #[.slice (cutA (some ⟨g, o, none⟩) cc (ind T 0 + 4)) ck (cc - (ind T 0 + 4)), .slice (cutA (some ⟨g, o, none⟩) cc (ind T 1 + 4)) (2 * (m - 1)) (cc - (ind T 1 + 4))], .agg #[.slice (cutA (some ⟨g, o, none⟩) cc (ind T 3 + 4)) cv (cc - (ind T 3 + 4)), .slice (cutA (some ⟨g, o, none⟩) cc (ind T 4 + 4)) (2 * (m - 1)) (cc - (ind T 4 + 4))], .int .u16 (m : Int)]) ∧ Below w.heap.size w w' := by
  have T0 := Lib.hid (rows2_start w 68 68 #[.slice none 0 0, .slice none 0 0] #[.slice none 0 0, .slice none 0 0])
  have KR := Lib.hid (rootP (h.below T0.out.bel).rb h.top h.pos4)
  have K0 := Lib.hid fun (w1 : World) (t : Nat) (h1 : Tbl w1 t g o L cc T) => pKI h1 h.m V0 l0 (by omega)
  have K1 := Lib.hid fun (w1 : World) (t : Nat) (h1 : Tbl w1 t g o L cc T) => koffP h1 h.m V1 l1 (by omega)
  have K3 := Lib.hid fun (w1 : World) (t : Nat) (h1 : Tbl w1 t g o L cc T) => pVI h1 h.m V3 l3 (by omega)
  have K4 := Lib.hid fun (w1 : World) (t : Nat) (h1 : Tbl w1 t g o L cc T) => voffP h1 h.m V4 l4 (by omega)
  have hg : g < w.heap.size := RB.lt_ h.rb (by have := h.l8; omega)
  obtain ⟨a0, ha0⟩ := cutA_some ⟨g, o, none⟩ cc (ind T 0 + 4)
  obtain ⟨a1, ha1⟩ := cutA_some ⟨g, o, none⟩ cc (ind T 1 + 4)
  obtain ⟨a3, ha3⟩ := cutA_some ⟨g, o, none⟩ cc (ind T 3 + 4)
  obtain ⟨a4, ha4⟩ := cutA_some ⟨g, o, none⟩ cc (ind T 4 + 4)
  obtain ⟨j0, hj0⟩ : ∃ j, j = cc - (ind T 0 + 4) := ⟨_, rfl⟩
  obtain ⟨j1, hj1⟩ : ∃ j, j = cc - (ind T 1 + 4) := ⟨_, rfl⟩
  obtain ⟨j3, hj3⟩ : ∃ j, j = cc - (ind T 3 + 4) := ⟨_, rfl⟩
  obtain ⟨j4, hj4⟩ : ∃ j, j = cc - (ind T 4 + 4) := ⟨_, rfl⟩
  obtain ⟨S, hS⟩ : ∃ S, S = 2 * (m - 1) := ⟨_, rfl⟩
  obtain ⟨k, hk⟩ : ∃ k, k = m - 1 := ⟨_, rfl⟩
  rw [ha0, ← hj0] at K0 ⊢
  rw [ha1, ← hj1, ← hS] at K1 ⊢
  rw [ha3, ← hj3] at K3 ⊢
  rw [ha4, ← hj4, ← hS] at K4
  rw [ha4, ← hj4]
  have hlen0 : ck ≤ j0 := by have := V0.fit; have := h.rb.len; omega
  have hlen1 : S ≤ j1 := by have := V1.fit; have := h.rb.len; omega
  have hlen3 : cv ≤ j3 := by have := V3.fit; have := h.rb.len; omega
  have hlen4 : S ≤ j4 := by have := V4.fit; have := h.rb.len; omega
  have bj0 : j0 ≤ 9223372036854775807 := by omega
  have bj1 : j1 ≤ 9223372036854775807 := by omega
  have bj3 : j3 ≤ 9223372036854775807 := by omega
  have bj4 : j4 ≤ 9223372036854775807 := by omega
  have q0 : ¬ (ck : Int) = 0 := by omega
  have e1 : (S : Int).tdiv 2 = (k : Int) := by rw [Int.tdiv_eq_ediv_of_nonneg (by omega)]; omega
  have e2 : 1 + (k : Int) = (m : Int) := by omega
  have bk : k ≤ 200 := by omega
  have bS : S ≤ 400 := by omega
  clear h V0 V1 V3 V4 l0 l1 l3 l4 ha0 ha1 ha3 ha4 hj0 hj1 hj3 hj4 hS hk c0
  go_enter Tryz.func106, Tryz.ntmps106
  go_wp2_with (first
    | (go_at_call 117; (with_reducible refine KR.out.mono ?_); rintro e w1 ⟨t, rfl, ht, h1, hb1⟩; have ht' : w.heap.size + 2 ≤ t := (by simpa using ht); have T1 := Lib.hid (T0.out.later hb1); have H1 := Lib.hid h1; clear h1 hb1 ht)
    | (go_at_call 136; (with_reducible refine (K0.out _ _ H1.out).mono ?_); rintro e w2 ⟨rfl, hw2⟩; have T2 := Lib.hid (T1.out.later (drew_below hw2)); have H2 := Lib.hid (tbl_of H1.out hw2); clear hw2; have f2 : w2.frozen? ⟨w.heap.size, 0, none⟩ = false := r2f0 T2.out 0; have c2 : w2.cell? ⟨w.heap.size, 0, none⟩ = some (.slice none 0 0) := r2c0 T2.out 0; have T3 := Lib.hid (r2s0 T2.out 0 (.slice (some a0) ck j0)); have H3 := Lib.hid (H2.out.set (b := w.heap.size) (i := 0) (.slice (some a0) ck j0) (by omega) (by omega)))
    | (go_at_call 137; (with_reducible refine (K1.out _ _ H3.out).mono ?_); rintro e w4 ⟨rfl, hb4⟩; have T4 := Lib.hid (T3.out.later hb4); have H4 := Lib.hid (H3.out.below hb4); clear hb4; have f4 : w4.frozen? ⟨w.heap.size, 1, none⟩ = false := r2f0 T4.out 1; have c4 : w4.cell? ⟨w.heap.size, 1, none⟩ = some (.slice none 0 0) := r2c0 T4.out 1; have T5 := Lib.hid (r2s0 T4.out 1 (.slice (some a1) S j1)); have H5 := Lib.hid (H4.out.set (b := w.heap.size) (i := 1) (.slice (some a1) S j1) (by omega) (by omega)); have d4 : (w4.setCell ⟨w.heap.size, 1, none⟩ (.slice (some a1) S j1)).cell? ⟨w.heap.size, 0, none⟩ = some (.slice (some a0) ck j0) := r2c0 T5.out 0; have d5 : (w4.setCell ⟨w.heap.size, 1, none⟩ (.slice (some a1) S j1)).cell? ⟨w.heap.size, 1, none⟩ = some (.slice (some a1) S j1) := r2c0 T5.out 1)
    | (go_at_call 121; (with_reducible refine (K3.out _ _ H5.out).mono ?_); rintro e w6 ⟨rfl, hw6⟩; have T6 := Lib.hid (T5.out.later (drew_below hw6)); have H6 := Lib.hid (tbl_of H5.out hw6); clear hw6; have f6 : w6.frozen? ⟨w.heap.size + 1, 0, none⟩ = false := r2f1 T6.out 0; have c6 : w6.cell? ⟨w.heap.size + 1, 0, none⟩ = some (.slice none 0 0) := r2c1 T6.out 0; have T7 := Lib.hid (r2s1 T6.out 0 (.slice (some a3) cv j3)); have H7 := Lib.hid (H6.out.set (b := w.heap.size + 1) (i := 0) (.slice (some a3) cv j3) (by omega) (by omega)))
    | (go_at_call 138; (with_reducible refine (K4.out _ _ H7.out).mono ?_); rintro e w8 ⟨rfl, hb8⟩; have T8 := Lib.hid (T7.out.later hb8); clear hb8; have f8 : w8.frozen? ⟨w.heap.size + 1, 1, none⟩ = false := r2f1 T8.out 1; have c8 : w8.cell? ⟨w.heap.size + 1, 1, none⟩ = some (.slice none 0 0) := r2c1 T8.out 1; have T9 := Lib.hid (r2s1 T8.out 1 (.slice (some a4) S j4))))
  refine bodyPost_ret (results_rrt rfl _ _ w.heap.size (w.heap.size + 1) #[.slice (some a0) ck j0, .slice (some a1) S j1] #[.slice (some a3) cv j3, .slice (some a4) S j4] _ rfl rfl T9.out.a0 T9.out.a1 Tryz.underlying68 rfl (by kernel_rfl) (by kernel_rfl)) rfl ?_
  exact ⟨rfl, T9.out.bel⟩

set_option maxRecDepth 100000 in
set_option maxHeartbeats 2000000 in
theorem kvInn {w : World} {g o L cc n ck cv m : Nat} {T id xk yk xv : List Nat} (h : Mess w g o L cc n T id) (hcct : cc ≤ 9223372036854775807) (hL : L ≤ cc)
    (V0 : Vec T 0 ck xk) (l0 : xk.length = ck) (c0 : 0 < ck) (b0 : ck ≤ 60000) (V1 : Vec T 1 (m - 1) yk) (l1 : yk.length = 2 * (m - 1)) (hm : m ≤ 200) (hm0 : 0 < m)
    (F3 : fld T 3 = 0) (V7 : Vec T 7 cv xv) (l7 : xv.length = cv) (hcv : cv = 20 * m) :
    Calls Tryz.prog 106 #[.slice (some ⟨g, o, none⟩) L cc] w fun e w' => ∃ g2 S2, e = .returned (.tuple #[.agg #[.slice (cutA (some ⟨g, o, none⟩) cc (ind T 0 + 4)) ck (cc - (ind T 0 + 4)), .slice (cutA (some ⟨g, o, none⟩) cc (ind T 1 + 4)) (2 * (m - 1)) (cc - (ind T 1 + 4))], .agg #[.slice (cutA (some ⟨g, o, none⟩) cc (ind T 7 + 4)) cv (cc - (ind T 7 + 4)), .slice (some ⟨g2, 0, none⟩) S2 S2], .int .u16 (m : Int)]) ∧ S2 = 2 * m ∧ Blk w' g2 S2 (adr m) ∧ w.heap.size ≤ g2 ∧ Below w.heap.size w w' := by
  have T0 := Lib.hid (rows2_start w 68 68 #[.slice none 0 0, .slice none 0 0] #[.slice none 0 0, .slice none 0 0])
  have KR := Lib.hid (rootP (h.below T0.out.bel).rb h.top h.pos4)
  have K0 := Lib.hid fun (w1 : World) (t : Nat) (h1 : Tbl w1 t g o L cc T) => pKI h1 h.m V0 l0 (by omega)
  have K1 := Lib.hid fun (w1 : World) (t : Nat) (h1 : Tbl w1 t g o L cc T) => koffP h1 h.m V1 l1 (by omega)
  have K3 := Lib.hid fun (w1 : World) (t : Nat) (h1 : Tbl w1 t g o L cc T) => pVI0 h1 h.m F3
  have K7 := Lib.hid fun (w1 : World) (t : Nat) (h1 : Tbl w1 t g o L cc T) => pAA h1 h.m V7 l7 (by omega)
  have hg : g < w.heap.size := RB.lt_ h.rb (by have := h.l8; omega)
  obtain ⟨a0, ha0⟩ := cutA_some ⟨g, o, none⟩ cc (ind T 0 + 4)
  obtain ⟨a1, ha1⟩ := cutA_some ⟨g, o, none⟩ cc (ind T 1 + 4)
  obtain ⟨a7, ha7⟩ := cutA_some ⟨g, o, none⟩ cc (ind T 7 + 4)
  obtain ⟨j0, hj0⟩ : ∃ j, j = cc - (ind T 0 + 4) := ⟨_, rfl⟩
  obtain ⟨j1, hj1⟩ : ∃ j, j = cc - (ind T 1 + 4) := ⟨_, rfl⟩
  obtain ⟨j7, hj7⟩ : ∃ j, j = cc - (ind T 7 + 4) := ⟨_, rfl⟩
  obtain ⟨S, hS⟩ : ∃ S, S = 2 * (m - 1) := ⟨_, rfl⟩
  obtain ⟨k, hk⟩ : ∃ k, k = m - 1 := ⟨_, rfl⟩
  rw [ha0, ← hj0] at K0 ⊢
  rw [ha1, ← hj1, ← hS] at K1 ⊢
  rw [ha7, ← hj7] at K7 ⊢
  have hlen0 : ck ≤ j0 := by have := V0.fit; have := h.rb.len; omega
  have hlen1 : S ≤ j1 := by have := V1.fit; have := h.rb.len; omega
  have hlen7 : cv ≤ j7 := by have := V7.fit; have := h.rb.len; omega
  have bj0 : j0 ≤ 9223372036854775807 := by omega
  have bj1 : j1 ≤ 9223372036854775807 := by omega
  have bj7 : j7 ≤ 9223372036854775807 := by omega
  have q0 : ¬ (ck : Int) = 0 := by omega
  have e1 : (S : Int).tdiv 2 = (k : Int) := by rw [Int.tdiv_eq_ediv_of_nonneg (by omega)]; omega
  have e2 : 1 + (k : Int) = (m : Int) := by omega
  have bk : k ≤ 200 := by omega
  have bS : S ≤ 400 := by omega
  have KA := Lib.hid fun w1 => addrOffs w1 (some a7) cv j7 m hcv hm hm0 hlen7 bj7
  have bcv : cv ≤ 4000 := by omega
  clear h V0 V1 V7 l0 l1 l7 ha0 ha1 ha7 hj0 hj1 hj7 hS hk c0 hcv F3
  go_enter Tryz.func106, Tryz.ntmps106
  go_wp2_with (first
    | (go_at_call 117; (with_reducible refine KR.out.mono ?_); rintro e w1 ⟨t, rfl, ht, h1, hb1⟩; have ht' : w.heap.size + 2 ≤ t := (by simpa using ht); have T1 := Lib.hid (T0.out.later hb1); have H1 := Lib.hid h1; clear h1 hb1 ht)
    | (go_at_call 136; (with_reducible refine (K0.out _ _ H1.out).mono ?_); rintro e w2 ⟨rfl, hw2⟩; have T2 := Lib.hid (T1.out.later (drew_below hw2)); have H2 := Lib.hid (tbl_of H1.out hw2); clear hw2; have f2 : w2.frozen? ⟨w.heap.size, 0, none⟩ = false := r2f0 T2.out 0; have c2 : w2.cell? ⟨w.heap.size, 0, none⟩ = some (.slice none 0 0) := r2c0 T2.out 0; have T3 := Lib.hid (r2s0 T2.out 0 (.slice (some a0) ck j0)); have H3 := Lib.hid (H2.out.set (b := w.heap.size) (i := 0) (.slice (some a0) ck j0) (by omega) (by omega)))
    | (go_at_call 137; (with_reducible refine (K1.out _ _ H3.out).mono ?_); rintro e w4 ⟨rfl, hb4⟩; have T4 := Lib.hid (T3.out.later hb4); have H4 := Lib.hid (H3.out.below hb4); clear hb4; have f4 : w4.frozen? ⟨w.heap.size, 1, none⟩ = false := r2f0 T4.out 1; have c4 : w4.cell? ⟨w.heap.size, 1, none⟩ = some (.slice none 0 0) := r2c0 T4.out 1; have T5 := Lib.hid (r2s0 T4.out 1 (.slice (some a1) S j1)); have H5 := Lib.hid (H4.out.set (b := w.heap.size) (i := 1) (.slice (some a1) S j1) (by omega) (by omega)); have d4 : (w4.setCell ⟨w.heap.size, 1, none⟩ (.slice (some a1) S j1)).cell? ⟨w.heap.size, 0, none⟩ = some (.slice (some a0) ck j0) := r2c0 T5.out 0; have d5 : (w4.setCell ⟨w.heap.size, 1, none⟩ (.slice (some a1) S j1)).cell? ⟨w.heap.size, 1, none⟩ = some (.slice (some a1) S j1) := r2c0 T5.out 1)
    | (go_at_call 121; (with_reducible refine (K3.out _ _ H5.out).mono ?_); rintro e w6 ⟨rfl, hw6⟩; have T6 := Lib.hid (T5.out.later (drew_below hw6)); have H6 := Lib.hid (tbl_of H5.out hw6); clear hw6)
    | (go_at_call 118; (with_reducible refine (K7.out _ _ H6.out).mono ?_); rintro e w7 ⟨rfl, hw7⟩; have T7 := Lib.hid (T6.out.later (drew_below hw7)); clear hw7; have f7 : w7.frozen? ⟨w.heap.size + 1, 0, none⟩ = false := r2f1 T7.out 0; have c7 : w7.cell? ⟨w.heap.size + 1, 0, none⟩ = some (.slice none 0 0) := r2c1 T7.out 0; have T8 := Lib.hid (r2s1 T7.out 0 (.slice (some a7) cv j7)); have d7 : (w7.setCell ⟨w.heap.size + 1, 0, none⟩ (.slice (some a7) cv j7)).cell? ⟨w.heap.size + 1, 0, none⟩ = some (.slice (some a7) cv j7) := r2c1 T8.out 0)
    | (go_at_call 139; (with_reducible refine (KA.out _).mono ?_); rintro e w9 ⟨g2, S2, rfl, hS2, hb2, hg2, hb9⟩; have T9 := Lib.hid (T8.out.later hb9); have HS2 := Lib.hid hS2; have HB2 := Lib.hid hb2; have HG2 := Lib.hid (show w.heap.size + 2 ≤ g2 from Nat.le_trans T8.out.lt hg2); clear hb9 hS2 hb2 hg2; have f9 : w9.frozen? ⟨w.heap.size + 1, 1, none⟩ = false := r2f1 T9.out 1; have c9 : w9.cell? ⟨w.heap.size + 1, 1, none⟩ = some (.slice none 0 0) := r2c1 T9.out 1; have T10 := Lib.hid (r2s1 T9.out 1 (.slice (some ⟨g2, 0, none⟩) S2 S2))))
  refine bodyPost_ret (results_rrt rfl _ _ w.heap.size (w.heap.size + 1) #[.slice (some a0) ck j0, .slice (some a1) S j1] #[.slice (some a7) cv j7, .slice (some ⟨g2, 0, none⟩) S2 S2] _ rfl rfl T10.out.a0 T10.out.a1 Tryz.underlying68 rfl (by kernel_rfl) (by kernel_rfl)) rfl ?_
  exact ⟨g2, S2, rfl, HS2.out, HB2.out.other (by have := HG2.out; omega), by have := HG2.out; omega, T10.out.bel⟩
end Go.Proofs.YtegohkgmamnkdaaGreat.Msg
