/- SHA-512's digest: a word's bytes written; the digest laid anew; made. Walked. No condition but the walk's own. -/
import Derived.Test.YtcbpnbfkjdmfgaaDoorSha8
set_option linter.unusedVariables false
namespace Go.Proofs.YtcbpnbfkjdmfgaaDoor.Sha
open Go.ChangeShapes Go.WideShapes Go.ChangeAt Go.RowKit
open Go.Proofs.YtcbpnbfkjdmfgaaDoor.Dig Go.Proofs.YtcbpnbfkjdmfgaaDoor.Mem Go.Proofs.YtcbpnbfkjdmfgaaDoor.Rb

/-- The bytes of a word, the greatest first. -/
def beI (v : Int) (k : Nat) : List Nat := (List.range k).map fun j => (v / 2 ^ (56 - 8 * j) % 256).toNat
theorem beI_length (v : Int) (k : Nat) : (beI v k).length = k := by simp [beI]
theorem beI_next (v : Int) (k : Nat) : beI v (k + 1) = beI v k ++ [(v / 2 ^ (56 - 8 * k) % 256).toNat] := by simp [beI, List.range_succ]
def putI (L : List Nat) (o : Nat) (v : Int) (k : Nat) : List Nat := L.take o ++ (beI v k ++ L.drop (o + k))
theorem putI_length (L : List Nat) (o : Nat) (v : Int) (k : Nat) (h : o + k ≤ L.length) : (putI L o v k).length = L.length := by
  unfold putI; rw [List.length_append, List.length_append, beI_length, List.length_take, List.length_drop]; omega
theorem putI_zero (L : List Nat) (o : Nat) (v : Int) : putI L o v 0 = L := by simp [putI, beI]
theorem putI_set (L : List Nat) (o : Nat) (v : Int) (k : Nat) (h : o + k < L.length) : (bs (putI L o v k)).toArray.setIfInBounds (o + k) (.int .u8 (v / 2 ^ (56 - 8 * k) % 256)) = (bs (putI L o v (k + 1))).toArray := by
  have e : v / 2 ^ (56 - 8 * k) % 256 = (((v / 2 ^ (56 - 8 * k) % 256).toNat : Nat) : Int) := by omega
  rw [e]
  unfold putI
  rw [beI_next, List.drop_eq_getElem_cons h]
  simp only [bs, List.setIfInBounds_toArray]
  congr 1
  rw [List.map_append, List.set_append_right _ _ (by rw [List.length_map, List.length_take]; omega), List.length_map, List.length_take, List.map_append, List.set_append_right _ _ (by rw [List.length_map, beI_length]; omega), List.length_map, beI_length, show o + k - min o L.length - k = 0 by omega, List.map_cons, List.set_cons_zero, List.map_append, List.map_append, List.map_append, List.append_assoc]
  rfl

set_option maxRecDepth 100000 in
theorem bePut (w : World) (q o n c : Nat) (T : TypeId) (L : List Nat) (v : Int) (hr : w.heap[q]? = some (.cells (bs L).toArray T (0, 0))) (h8 : 8 ≤ n) (hn : n ≤ c) (hc : c ≤ 1000) (ho : o + 8 ≤ L.length) :
    Calls Tryd.prog 36 #[.slice (some ⟨q, o, none⟩) n c, .int .u64 v] w fun e w' => e = .returned (.tuple #[]) ∧ w'.heap[q]? = some (.cells (bs (putI L o v 8)).toArray T (0, 0)) ∧ Wr q w w' := by
  have HR := Lib.hid hr
  have c7 := bytes_of hr (o + 7) (by omega)
  rw [Nat.zero_add] at c7
  have hq : q < w.heap.size := by
    rcases Nat.lt_or_ge q w.heap.size with h | h
    · exact h
    · rw [Array.getElem?_eq_none h] at hr; cases hr
  have i7 : 7 < n := by omega
  clear hr
  go_enter Tryd.func36, Tryd.ntmps36
  go_wp2_with fail
  go_loopw [4] (fun iv wi => ∃ i : Nat, i ≤ 8 ∧ iv = .int .i64 (i : Int) ∧ wi.heap[q]? = some (.cells (bs (putI L o v i)).toArray T (0, 0)) ∧ Wr q w wi) (fun iv _ => 8 - (intOf iv).toNat)
  case atStart => exact ⟨0, by omega, rfl, by rw [putI_zero]; exact HR.out, Wr.refl _ _⟩
  case round =>
    obtain ⟨i, hi, rfl, hrow, hw⟩ := hrel
    have RO := Lib.hid hrow
    have RW := Lib.hid hw
    by_cases hlt : i < 8
    · have hki : (i : Int) < 8 := by omega
      have hin : i < n := by omega
      have cc := bytes_of hrow (o + i) (by rw [putI_length _ _ _ _ (by omega)]; omega)
      rw [Nat.zero_add] at cc
      have ff := ifree hrow (o + i)
      have e1 : (56 : Int) - 8 * (i : Int) = ((56 - 8 * i : Nat) : Int) := by omega
      clear hrow hw
      go_wp2_with fail
      go_roundw
      case rel =>
        have e := setCell_heap (t := o + i) (v := .int .u8 (v / 2 ^ (56 - 8 * i) % 256)) RO.out
        rw [putI_set L o v i (by omega)] at e
        exact ⟨i + 1, by omega, by go_num, e, RW.out.trans (Wr.setCell _ _)⟩
      case measure => simp [intOf]; omega
    · obtain rfl : i = 8 := by omega
      go_wp2_with fail
      go_end0
      exact ⟨rfl, RO.out, RW.out⟩

set_option maxRecDepth 100000 in
set_option maxHeartbeats 1000000 in
theorem reset (w : World) (g : Nat) (h : S8) (x : List Nat) (nx len : Int) (D : Dg w g h.list x nx len) :
    Calls Tryd.prog 32 #[.pointer (some ⟨g, 0, none⟩)] w fun e w' => e = .returned (.tuple #[]) ∧ Dg w' g S0.list x 0 0 ∧ Wr g w w' := by
  have DT := Lib.hid D
  have q0 := DT.out.h_at (i := 0) (by omega)
  have q1 := DT.out.h_at (i := 1) (by omega)
  have q2 := DT.out.h_at (i := 2) (by omega)
  have q3 := DT.out.h_at (i := 3) (by omega)
  have q4 := DT.out.h_at (i := 4) (by omega)
  have q5 := DT.out.h_at (i := 5) (by omega)
  have q6 := DT.out.h_at (i := 6) (by omega)
  have q7 := DT.out.h_at (i := 7) (by omega)
  obtain ⟨n1, n2, n3⟩ := DT.out.n_at
  have r0 := DT.out.free 0
  have r1 := DT.out.free 1
  have r2 := DT.out.free 2
  have r3 := DT.out.free 3
  have r4 := DT.out.free 4
  have r5 := DT.out.free 5
  have r6 := DT.out.free 6
  have r7 := DT.out.free 7
  have r8 := DT.out.free 136
  have r9 := DT.out.free 137
  clear D
  go_enter Tryd.func32, Tryd.ntmps32
  go_wp2
  go_end0
  obtain ⟨sa, sb, sc, sd, se, sf, sg, sh⟩ := h
  have d1 := DT.out.set_h 0 (by omega) 7640891576956012808
  have d2 := d1.set_h 1 (by omega) 13503953896175478587
  have d3 := d2.set_h 2 (by omega) 4354685564936845355
  have d4 := d3.set_h 3 (by omega) 11912009170470909681
  have d5 := d4.set_h 4 (by omega) 5840696475078001361
  have d6 := d5.set_h 5 (by omega) 11170449401992604703
  have d7 := d6.set_h 6 (by omega) 2270897969802886507
  have d8 := d7.set_h 7 (by omega) 6620516959819538809
  have d9 := (d8.set_n 0).set_len 0
  simp only [S8.list, List.set_cons_zero, List.set_cons_succ] at d9
  have h1 := (Wr.refl g w).trans (Wr.setCell (o := 0) _ (.int .u64 7640891576956012808))
  have h2 := h1.trans (Wr.setCell (o := 1) _ (.int .u64 13503953896175478587))
  have h3 := h2.trans (Wr.setCell (o := 2) _ (.int .u64 4354685564936845355))
  have h4 := h3.trans (Wr.setCell (o := 3) _ (.int .u64 11912009170470909681))
  have h5 := h4.trans (Wr.setCell (o := 4) _ (.int .u64 5840696475078001361))
  have h6 := h5.trans (Wr.setCell (o := 5) _ (.int .u64 11170449401992604703))
  have h7 := h6.trans (Wr.setCell (o := 6) _ (.int .u64 2270897969802886507))
  have h8 := h7.trans (Wr.setCell (o := 7) _ (.int .u64 6620516959819538809))
  have h9 := h8.trans (Wr.setCell (o := 136) _ (.int .i64 0))
  have h10 := h9.trans (Wr.setCell (o := 137) _ (.int .u64 0))
  exact ⟨rfl, d9, h10⟩

def z128 : List Nat := List.replicate 128 0
theorem builtD : Tryd.prog.built 58 [(4, Value.int .i64 64)] = some (DL (S8.list ⟨0, 0, 0, 0, 0, 0, 0, 0⟩) z128 0 0).toArray := by kernel_rfl
theorem build_D {ops : Array Oper} {rest : List Oper} {o : Oper} {a : Act} {w : World} {Q : Exit → Act → World → Prop} (hg : o.guard = none) (parts : Array (Nat × Operand)) (ho : o.op = .build 58 parts)
    (hp' : parts.toList.map (fun x => (x.1, a.eval x.2)) = [(4, Value.int .i64 64)])
    (h : wpList Tryd.prog ops Q rest (a.put o.dst (.agg (DL (S8.list ⟨0, 0, 0, 0, 0, 0, 0, 0⟩) z128 0 0).toArray)) w) : wpList Tryd.prog ops Q (o :: rest) a w :=
  have hp := (Array.toList_map (f := fun x : Nat × Operand => (x.1, a.eval x.2)) (xs := parts)).trans hp'
  wpList_build hg _ parts ho (by rw [hp, builtD]; rfl) (by rw [hp, builtD]; exact h)

set_option maxRecDepth 100000 in
theorem newDigest (w : World) :
    Calls Tryd.prog 21 #[] w fun e w' => e = .returned (.pointer (some ⟨w.heap.size, 0, none⟩)) ∧ Dg w' w.heap.size S0.list z128 0 0 ∧ Below w.heap.size w w' := by
  have D0 := Lib.hid (Dg.mk (w := w.alloc (.cells (DL (S8.list ⟨0, 0, 0, 0, 0, 0, 0, 0⟩) z128 0 0).toArray 58)) (heap_alloc_new _ _) rfl rfl)
  have B0 := Lib.hid ((Below.refl w.heap.size w).alloc (Nat.le_refl _) (.cells (DL (S8.list ⟨0, 0, 0, 0, 0, 0, 0, 0⟩) z128 0 0).toArray 58))
  go_enter Tryd.func21, Tryd.ntmps21
  go_wp2_with (first
    | (refine build_D rfl _ rfl rfl ?_)
    | (go_at_call 32; (with_reducible refine (reset _ _ _ _ _ _ D0.out).mono ?_); rintro e w1 ⟨rfl, hd, hw⟩; have HD := Lib.hid hd; have HW := Lib.hid hw; clear hd hw))
  go_ret
  exact ⟨rfl, HD.out, B0.out.trans (HW.out.below (Nat.le_refl _) (by simp))⟩
end Go.Proofs.YtcbpnbfkjdmfgaaDoor.Sha
