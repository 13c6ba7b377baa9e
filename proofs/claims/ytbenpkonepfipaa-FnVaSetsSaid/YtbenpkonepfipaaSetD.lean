/- The hash of a key as the laws have it, and where a hash stands among some, walked. Conditions: rows that hold bytes; twenty bytes each. -/
import Derived.Test.YtbenpkonepfipaaSetC
import Derived.Test.YtbenpkonepfipaaOrd3
import Derived.Deep.MidRow
set_option linter.unusedVariables false
namespace Go.Proofs.Ytbenpkonepfipaa.Sets
open Go.ChangeShapes Go.WideShapes Go.ChangeAt Go.RowKit
open Go.Proofs.Ytbenpkonepfipaa.Dig Go.Proofs.Ytbenpkonepfipaa.Mem Go.Proofs.Ytbenpkonepfipaa.Rb Go.Proofs.Ytbenpkonepfipaa.Ord Go.Proofs.Ytbenpkonepfipaa.Acts

/-- The row behind i bytes. -/
def hk (ks : List Nat) (i : Nat) : List Nat := ks.take i ++ List.replicate (20 - i) 0
theorem hk_length {ks : List Nat} {i : Nat} (h : i ≤ 20) (h' : i ≤ ks.length) : (hk ks i).length = 20 := by
  unfold hk; rw [List.length_append, List.length_take, List.length_replicate]; omega
theorem hk_zero (ks : List Nat) : Arr .u8 (hk ks 0) = Z20 := rfl
theorem hk_step {ks : List Nat} {i : Nat} (h : i < 20) (h' : i < ks.length) : (hk ks i).set i (ks.getD i 0) = hk ks (i + 1) := by
  unfold hk
  have hl : (ks.take i).length = i := by rw [List.length_take]; omega
  rw [show 20 - i = (20 - (i + 1)) + 1 by omega, List.replicate_succ, List.set_append_right _ _ (by omega), hl, Nat.sub_self, List.set_cons_zero, List.take_succ_eq_append_getElem h', List.append_assoc, List.getD_eq_getElem?_getD, List.getElem?_eq_getElem h']
  rfl
theorem hk_end {ks : List Nat} {i : Nat} (hi : i ≤ 20) (hi2 : i ≤ ks.length) (h : i = 20 ∨ i = ks.length) : hk ks i = h20 ks := by
  unfold hk h20
  rcases h with rfl | rfl
  · rw [show 20 - ks.length = 20 - 20 by omega]
  · rw [List.take_of_length_le (Nat.le_refl _), List.take_of_length_le (by omega)]
theorem arr_set (xs : List Nat) (i x : Nat) : (Arr .u8 xs).setIfInBounds i (.int .u8 (x : Int)) = Arr .u8 (xs.set i x) := by
  simp [Arr, List.map_set]
theorem rows2_set1 {w0 w : World} {t u : TypeId} {A B : Array Value} (h : Rows2 w0 w t u A B) (j : Nat) (v : Value) : Rows2 w0 (w.setCell ⟨w0.heap.size + 1, j, none⟩ v) t u A (B.setIfInBounds j v) := by
  refine ⟨?_, ?_, h.bel.setCell (by show w0.heap.size ≤ w0.heap.size + 1; omega) _, by have := h.lt; simpa [World.setCell] using this⟩
  · have := h.a0
    simpa [World.setCell, Array.getElem?_modify, show ¬ w0.heap.size + 1 = w0.heap.size by omega] using this
  · simp [World.setCell, Array.getElem?_modify, h.a1]

set_option maxRecDepth 100000 in
theorem vaHash (w : World) (a : Option Addr) (n c : Nat) (ks : List Nat) (h : RB w a n c ks) :
    Calls Try.prog 28 #[.slice a n c] w fun e w' => e = .returned (.agg (Arr .u8 (h20 ks))) ∧ Below w.heap.size w w' := by
  have HR := Lib.hid fun w' (hb : Below w.heap.size w w') => h.below hb (Nat.le_refl _)
  have hl := h.len
  have HL := Lib.hid h.len
  have BY := Lib.hid h.byte
  have T0 := Lib.hid (rows2_start w 22 22 Z20 (Arr .u8 (hk ks 0)))
  rw [hk_zero] at T0
  have hc := h.le
  have ht := h.top
  unfold maxLen at ht
  clear h hl
  go_enter Try.func28, Try.ntmps28
  go_wp2_with fail
  go_loopw [4] (fun iv wr => ∃ i : Nat, i ≤ 20 ∧ i ≤ n ∧ iv = .int .i64 (i : Int) ∧ Rows2 w wr 22 22 Z20 (Arr .u8 (hk ks i))) (fun iv _ => 20 - (intOf iv).toNat)
  case atStart => exact ⟨0, by omega, by omega, rfl, T0.out⟩
  case round =>
    obtain ⟨i, hi, hin, rfl, hT⟩ := hrel
    have T1 := Lib.hid hT
    have RI := HR.out wr hT.bel
    have hlen := hk_length (ks := ks) hi (by rw [HL.out]; exact hin)
    have fin : i = 20 ∨ i = n → Rows2 w wr 22 22 Z20 (Arr .u8 (h20 ks)) := fun he => by
      rw [← hk_end hi (by rw [HL.out]; exact hin) (by rw [HL.out]; exact he)]; exact hT
    have FIN := Lib.hid fin
    have S20 := Lib.hid (size22 (h20_key BY.out).1)
    have SZ0 := Lib.hid (show Z20.size = (Arr .u8 (h20 ks)).size by have := (h20_key BY.out).1; simp [Arr, this])
    have O20 := Lib.hid (show (Arr .u8 (h20 ks)).all (·.oneCell') = true by simp [Arr, Value.oneCell'])
    by_cases g1 : i < 20
    · have q1 : (i : Int) < 20 := by omega
      by_cases g2 : i < n
      · have q2 : (i : Int) < (n : Int) := by omega
        obtain ⟨b, o, ea, hb⟩ := RI.at_ (by omega)
        subst ea
        have hx := hb i (by rw [HL.out]; exact g2)
        obtain ⟨x, hxe⟩ : ∃ x, x = ks.getD i 0 := ⟨_, rfl⟩
        rw [← hxe] at hx
        have f1 : wr.cell? ⟨w.heap.size + 1, i, none⟩ = some (.int .u8 (((hk ks i).getD i 0 : Nat) : Int)) := by
          simp only [World.cell?, hT.a1]
          have := bs_get (xs := hk ks i) (i := i) (by omega)
          simpa [Arr, bs] using this
        have z1 : wr.frozen? ⟨w.heap.size + 1, i, none⟩ = false := by simp [World.frozen?, hT.a1]
        have HX := Lib.hid hxe
        clear hT RI hb fin hxe hlen
        go_wp2_with fail
        go_roundw
        case rel =>
          refine ⟨i + 1, by omega, by omega, by go_num, ?_⟩
          have := rows2_set1 T1.out i (.int .u8 (x : Int))
          rw [arr_set, HX.out, hk_step g1 (by rw [HL.out]; exact g2)] at this
          rw [HX.out]
          exact this
        case measure => simp [intOf]; omega
      · obtain rfl : i = n := by omega
        have q2 : ¬ (i : Int) < (i : Int) := by omega
        have T2 := Lib.hid (FIN.out (Or.inr rfl))
        clear hT RI fin hlen
        go_wp2_with (first
          | (with_reducible refine wpList_load_row rfl 22 (.tmp 3) rfl (w.heap.size + 1) rfl 22 (Arr .u8 (h20 ks)) (0, 0) _ T2.out.a1 Try.underlying22 rfl S20.out ?_)
          | (with_reducible refine store_0 T2 rfl 22 (.tmp 2) (.tmp 21) rfl (Arr .u8 (h20 ks)) rfl rfl S20.out SZ0.out O20.out ?_; intro w2 T3))
        refine bodyPost_ret (results_cell_row rfl _ _ w.heap.size 22 (Arr .u8 (h20 ks)) (0, 0) _ rfl T3.out.a0 Try.underlying22 rfl S20.out) rfl ?_
        exact ⟨rfl, T3.out.bel⟩
    · obtain rfl : i = 20 := by omega
      have T2 := Lib.hid (FIN.out (Or.inl rfl))
      clear hT RI fin hlen
      go_wp2_with (first
        | (with_reducible refine wpList_load_row rfl 22 (.tmp 3) rfl (w.heap.size + 1) rfl 22 (Arr .u8 (h20 ks)) (0, 0) _ T2.out.a1 Try.underlying22 rfl S20.out ?_)
        | (with_reducible refine store_0 T2 rfl 22 (.tmp 2) (.tmp 21) rfl (Arr .u8 (h20 ks)) rfl rfl S20.out SZ0.out O20.out ?_; intro w2 T3))
      refine bodyPost_ret (results_cell_row rfl _ _ w.heap.size 22 (Arr .u8 (h20 ks)) (0, 0) _ rfl T3.out.a0 Try.underlying22 rfl S20.out) rfl ?_
      exact ⟨rfl, T3.out.bel⟩

/-- Some hashes, one behind another. -/
def cat20 (L : List (List Nat)) : List Value := L.flatMap bs
theorem cat20_length {L : List (List Nat)} (h : ∀ x ∈ L, Key x) : (cat20 L).length = L.length * 20 := by
  unfold cat20
  induction L with
  | nil => rfl
  | cons x L ih =>
    rw [List.flatMap_cons, List.length_append, ih (fun y hy => h y (List.mem_cons_of_mem _ hy)), bs_length, (h x (List.mem_cons_self ..)).1, List.length_cons]
    omega
theorem cat20_at {L : List (List Nat)} (h : ∀ x ∈ L, Key x) : ∀ k (hk : k < L.length) j, j < 20 → (cat20 L)[k * 20 + j]? = (bs L[k])[j]? := by
  induction L with
  | nil => intro k hk; simp at hk
  | cons x L ih =>
    intro k hk j hj
    have hx := (h x (List.mem_cons_self ..)).1
    unfold cat20
    rw [List.flatMap_cons]
    cases k with
    | zero => rw [List.getElem?_append_left (by rw [bs_length]; omega)]; simp
    | succ k =>
      rw [List.getElem?_append_right (by rw [bs_length]; omega), bs_length, hx, show (k + 1) * 20 + j - 20 = k * 20 + j by omega]
      exact ih (fun y hy => h y (List.mem_cons_of_mem _ hy)) k (by simpa using hk) j hj
/-- Where x stands in L, the first time; -1 if it does not. -/
def at? (x : List Nat) (L : List (List Nat)) : Int := if x ∈ L then (L.idxOf x : Int) else -1

theorem idx_first {x : List Nat} : ∀ (L : List (List Nat)) (k : Nat) (hk : k < L.length), L[k] = x → (∀ j (hj : j < L.length), j < k → L[j] ≠ x) → L.idxOf x = k
  | [], k, hk, _, _ => by simp at hk
  | y :: L, 0, _, h, _ => by
    have h : y = x := h
    subst h
    simp
  | y :: L, k + 1, hk, h, hall => by
    have hne : y ≠ x := hall 0 (by simp) (by omega)
    have hb : (y == x) = false := by simpa using hne
    rw [List.idxOf_cons, hb, idx_first L k (by simpa using hk) h (fun j hj hjk => hall (j + 1) (by simpa using hj) (by omega))]
    rfl

theorem eq20 {xs ys : List Nat} (hx : Key xs) (hy : Key ys) : ∀ w, (Op.equalIn 10000 22 (.agg (Arr .u8 xs)) (.agg (Arr .u8 ys))).run Try.prog w = .ok (xs == ys) w := fun w =>
  run_equalIn_arr (P := Try.prog) w 9998 22 5 20 Try.underlying22 Try.underlying5 Ord.size5 hx.1 hy.1 hx.2 hy.2

/-- An array out of the middle of a block. -/
theorem load_arr {P : Program} {ops : Array Oper} {rest : List Oper} {o : Oper} {a : Act} {w : World} {Q : Exit → Act → World → Prop} (hgd : o.guard = none) (ty : TypeId) (x : Operand) (ho : o.op = .load ty x)
    (b off : Nat) (hx : a.eval x = .pointer (some ⟨b, off, none⟩)) (A : Array Value) (d : TypeDesc) (hc : w.rangeAt b off A.toList)
    (hu : P.underlying ty = some d) (hd : d.isRow = true) (hi : (P.info? ty).map (·.size) = some A.size)
    (h : wpList P ops Q rest (a.put o.dst (.agg A)) w) : wpList P ops Q (o :: rest) a w :=
  wpList_load_mid hgd ty x ho b off hx A.toList d hc hu hd (by simpa using hi) (by simpa using h)

set_option maxRecDepth 100000 in
theorem closure (w : World) (p : Nat) (v : Value) (B : Nat) (L : List (List Nat)) (x : List Nat) (hx : Key x) (hL : ∀ y ∈ L, Key y) (hn : L.length ≤ 1000) (hp : w.cell? ⟨p, 0, none⟩ = some v) (hv : w.ownsRow B 22 20 v L.length (cat20 L)) :
    Calls Try.prog 26 #[.agg (Arr .u8 x), .pointer (some ⟨p, 0, none⟩)] w fun e w' => e = .returned (.int .i64 (at? x L)) ∧ Below w.heap.size w w' := by
  obtain ⟨n, hnn⟩ : ∃ n, n = L.length := ⟨_, rfl⟩
  rw [← hnn] at hv hn
  obtain ⟨va, vc, rfl⟩ : ∃ a c, v = .slice a n c := by
    rcases hv.2 with ⟨h0, hz⟩ | ⟨g, cap, cur, hv, _⟩
    · exact ⟨none, 0, by rw [h0]; simp_all⟩
    · exact ⟨_, _, hv⟩
  have hrow : n = 0 ∨ ∃ g, va = some ⟨g, 0, none⟩ ∧ g < w.heap.size ∧ ∀ k (hk : k < L.length), w.rangeAt g (k * 20) (bs L[k]) := by
    rcases hv.2 with ⟨h0, hz⟩ | ⟨g, cap, cur, hv', _, hh, _⟩
    · exact Or.inl hz
    · injection hv' with e1 e2 e3
      subst e1 e3
      refine Or.inr ⟨g, rfl, ?_, fun k hk j u hj => ?_⟩
      · rcases Nat.lt_or_ge g w.heap.size with h' | h'
        · exact h'
        · rw [Array.getElem?_eq_none h'] at hh; cases hh
      · have hj20 : j < 20 := by
          have := (List.getElem?_eq_some_iff.1 hj).1
          rw [bs_length, (hL _ (List.getElem_mem hk)).1] at this
          exact this
        rw [hv.cellAt (k * 20 + j) (by rw [hnn]; have := Nat.mul_le_mul_right 20 (show k + 1 ≤ L.length from hk); omega), cat20_at hL k hk j hj20]
        exact hj
  have HROW := Lib.hid hrow
  have HN := Lib.hid hnn
  have HX := Lib.hid hx
  have HL := Lib.hid hL
  have X20 := Lib.hid (size22 hx.1)
  have hpA : ∀ O, (w.alloc O).cell? ⟨p, 0, none⟩ = some (.slice va n vc) := fun O => by rw [World.cell?_alloc_lt w O _ (lt_of_cell hp)]; exact hp
  have T0 := Lib.hid (row1_start w 22 (Arr .u8 x))
  clear hv hrow hnn hx hL hp
  go_enter Try.func26, Try.ntmps26
  go_wp2_with fail
  go_loopw [8] (fun iv wr => ∃ k : Nat, k ≤ n ∧ iv = .int .i64 (k : Int) ∧ Row1 w wr 22 (Arr .u8 x) ∧ ∀ j (hj : j < L.length), j < k → L[j] ≠ x) (fun iv _ => n - (intOf iv).toNat)
  case atStart => exact ⟨0, by omega, rfl, T0.out, fun j _ h => absurd h (by omega)⟩
  case round =>
    obtain ⟨k, hk, rfl, hT, hall⟩ := hrel
    have T1 := Lib.hid hT
    have ALL := Lib.hid hall
    have hws := hT.bel.size
    clear hT hall
    by_cases hlt : k < n
    · have hkL : k < L.length := by rw [← HN.out]; exact hlt
      obtain ⟨g, hva, hg, hR⟩ := HROW.out.resolve_left (by omega)
      subst hva
      obtain ⟨y, hy⟩ : ∃ y, y = L[k] := ⟨_, rfl⟩
      have hky : Key y := by rw [hy]; exact HL.out _ (List.getElem_mem hkL)
      have RG := Lib.hid (show wr.rangeAt g (k * 20) (Arr .u8 y).toList from by
        rw [hy]
        exact fun j u hj => (T1.out.bel.cell (p := ⟨g, k * 20 + j, none⟩) hg).trans (hR k hkL j u hj))
      have Y20 := Lib.hid (size22 hky.1)
      have YZ := Lib.hid (show Z20.size = (Arr .u8 y).size by rw [Arr_size, hky.1]; rfl)
      have Y1 := Lib.hid (show (Arr .u8 y).all (·.oneCell') = true by simp [Arr, Value.oneCell'])
      have X0 := Lib.hid fun O => (T1.out.alloc O).a0
      have heq := eq20 hky HX.out
      have HY := Lib.hid hy
      clear hy hR hky
      cases hb : (y == x)
      · rw [hb] at heq
        go_wp2_with (first
          | (with_reducible refine load_arr rfl 22 (.tmp 11) rfl g (k * 20) rfl (Arr .u8 y) _ RG.out Try.underlying22 rfl Y20.out ?_)
          | (with_reducible refine store_new (A := Z20) (t := 22) rfl 22 (.tmp 5) (.tmp 12) rfl (Arr .u8 y) rfl rfl Y20.out YZ.out Y1.out ?_)
          | (with_reducible refine wpList_load_row rfl 22 (.tmp 5) rfl wr.heap.size rfl 22 (Arr .u8 y) (0, 0) _ (heap_alloc_new _ _) Try.underlying22 rfl Y20.out ?_)
          | (with_reducible refine wpList_load_row rfl 22 (.tmp 2) rfl w.heap.size rfl 22 (Arr .u8 x) (0, 0) _ (X0.out _) Try.underlying22 rfl X20.out ?_))
        go_roundw
        case rel =>
          refine ⟨k + 1, by omega, by go_num, T1.out.alloc _, fun j hj hjk => ?_⟩
          rcases Nat.lt_or_ge j k with h | h
          · exact ALL.out j hj h
          · obtain rfl : j = k := by omega
            rw [← HY.out]
            intro e
            rw [e] at hb
            simp at hb
        case measure => simp [intOf]; omega
      · rw [hb] at heq
        go_wp2_with (first
          | (with_reducible refine load_arr rfl 22 (.tmp 11) rfl g (k * 20) rfl (Arr .u8 y) _ RG.out Try.underlying22 rfl Y20.out ?_)
          | (with_reducible refine store_new (A := Z20) (t := 22) rfl 22 (.tmp 5) (.tmp 12) rfl (Arr .u8 y) rfl rfl Y20.out YZ.out Y1.out ?_)
          | (with_reducible refine wpList_load_row rfl 22 (.tmp 5) rfl wr.heap.size rfl 22 (Arr .u8 y) (0, 0) _ (heap_alloc_new _ _) Try.underlying22 rfl Y20.out ?_)
          | (with_reducible refine wpList_load_row rfl 22 (.tmp 2) rfl w.heap.size rfl 22 (Arr .u8 x) (0, 0) _ (X0.out _) Try.underlying22 rfl X20.out ?_))
        go_ret
        refine ⟨?_, T1.out.bel.alloc hws _⟩
        have hyx : L[k] = x := by rw [← HY.out]; simpa using hb
        have hm : x ∈ L := by rw [← hyx]; exact List.getElem_mem hkL
        have hi := idx_first L k hkL hyx ALL.out
        unfold at?
        rw [if_pos hm, hi]
        rfl
    · obtain rfl : k = n := by omega
      go_wp2_with fail
      go_ret
      refine ⟨?_, T1.out.bel⟩
      unfold at?
      rw [if_neg]
      · rfl
      · intro hm
        obtain ⟨j, hj, he⟩ := List.getElem_of_mem hm
        exact ALL.out j hj (by rw [HN.out]; exact hj) he
end Go.Proofs.Ytbenpkonepfipaa.Sets
