/- SHA-512's digest: what it holds in memory; words of the library's block. No condition. -/
import Derived.Test.YtcbpnbfkjdmfgaaDoorSha7
import Derived.Deep.DeepCutAuto
set_option linter.unusedVariables false
namespace Go.Proofs.YtcbpnbfkjdmfgaaDoor.Sha
open Go.ChangeShapes Go.WideShapes Go.ChangeAt Go.RowKit
open Go.Proofs.YtcbpnbfkjdmfgaaDoor.Dig Go.Proofs.YtcbpnbfkjdmfgaaDoor.Mem Go.Proofs.YtcbpnbfkjdmfgaaDoor.Rb

/-- Of what was there block g alone is written. -/
structure Wr (g : Nat) (w w' : World) : Prop where
  os : w'.os = w.os
  tape : w'.tape = w.tape
  output : w'.output = w.output
  size : w.heap.size ≤ w'.heap.size
  block : ∀ k, k < w.heap.size → k ≠ g → w'.heap[k]? = w.heap[k]?
theorem Wr.refl (g : Nat) (w : World) : Wr g w w := ⟨rfl, rfl, rfl, Nat.le_refl _, fun _ _ _ => rfl⟩
theorem Wr.trans {g : Nat} {a b c : World} (h : Wr g a b) (k : Wr g b c) : Wr g a c :=
  ⟨k.os.trans h.os, k.tape.trans h.tape, k.output.trans h.output, Nat.le_trans h.size k.size, fun i hi hg => (k.block i (Nat.lt_of_lt_of_le hi h.size) hg).trans (h.block i hi hg)⟩
theorem Wr.of_below {g : Nat} {w w' : World} (h : Below w.heap.size w w') : Wr g w w' := ⟨h.os, h.tape, h.output, h.size, fun k hk _ => h.block k hk⟩
theorem Wr.below {g B : Nat} {w w' : World} (h : Wr g w w') (h1 : B ≤ g) (h2 : B ≤ w.heap.size) : Below B w w' := ⟨h.os, h.tape, h.output, h.size, fun k hk => h.block k (by omega) (by omega)⟩
theorem Wr.setCell {g o : Nat} (w : World) (v : Value) : Wr g w (w.setCell ⟨g, o, none⟩ v) := ⟨rfl, rfl, rfl, by simp [World.setCell], fun k _ hk => setCell_other (Ne.symm hk)⟩
theorem Wr.setRow {g : Nat} (w : World) (A : Array Value) : Wr g w (w.setRow g A) := ⟨rfl, rfl, rfl, by simp, fun k _ hk => setRow_other _ _ _ _ hk⟩
theorem Wr.drewN {g : Nat} {w w' : World} (h : Wr g w w') (m : Nat) : Wr g w (w'.drewN m) := ⟨h.os, h.tape, h.output, h.size, h.block⟩

/-- The round numbers in their place. -/
def KG (w : World) : Prop := 0 < w.heap.size ∧ ∀ i, i < 80 → w.cell? ⟨0, i, none⟩ = some (.int .u64 (KK.getD i 0))
theorem KG.below {w w' : World} {B : Nat} (h : KG w) (hb : Below B w w') (h0 : 0 < B) : KG w' :=
  ⟨Nat.lt_of_lt_of_le h.1 hb.size, fun i hi => (hb.cell (p := ⟨0, i, none⟩) h0).trans (h.2 i hi)⟩
theorem KG.wr {w w' : World} {g : Nat} (h : KG w) (hb : Wr g w w') (h0 : 0 < g) : KG w' := h.below (hb.below (B := 1) (by omega) (by have := h.1; omega)) (by omega)

/-- A digest's cells: the state, the bytes that wait, how many of them count, how many bytes there were. -/
def DL (h : List Int) (x : List Nat) (nx len : Int) : List Value := h.map (Value.int .u64) ++ (bs x ++ [.int .i64 nx, .int .u64 len, .int .i64 64])
structure Dg (w : World) (g : Nat) (h : List Int) (x : List Nat) (nx len : Int) : Prop where
  row : w.heap[g]? = some (.cells (DL h x nx len).toArray 58 (0, 0))
  hl : h.length = 8
  xl : x.length = 128
theorem Dg.free {w : World} {g : Nat} {h : List Int} {x : List Nat} {nx len : Int} (d : Dg w g h x nx len) (i : Nat) : w.frozen? ⟨g, i, none⟩ = false := by
  simp [World.frozen?, d.row]
theorem Dg.lt {w : World} {g : Nat} {h : List Int} {x : List Nat} {nx len : Int} (d : Dg w g h x nx len) : g < w.heap.size := by
  rcases Nat.lt_or_ge g w.heap.size with h' | h'
  · exact h'
  · have := d.row; rw [Array.getElem?_eq_none h'] at this; cases this
theorem Dg.cell {w : World} {g : Nat} {h : List Int} {x : List Nat} {nx len : Int} (d : Dg w g h x nx len) (i : Nat) : w.cell? ⟨g, i, none⟩ = (DL h x nx len)[i]? := by
  simp [World.cell?, d.row]
theorem Dg.h_at {w : World} {g : Nat} {h : List Int} {x : List Nat} {nx len : Int} (d : Dg w g h x nx len) {i : Nat} (hi : i < 8) : w.cell? ⟨g, i, none⟩ = some (.int .u64 (h.getD i 0)) := by
  have := d.hl
  rw [d.cell, DL, List.getElem?_append_left (by rw [List.length_map]; omega), List.getElem?_map, List.getD_eq_getElem?_getD, List.getElem?_eq_getElem (by omega)]
  rfl
theorem Dg.x_at {w : World} {g : Nat} {h : List Int} {x : List Nat} {nx len : Int} (d : Dg w g h x nx len) {i : Nat} (hi : i < 128) : w.cell? ⟨g, 8 + i, none⟩ = some (.int .u8 ((x.getD i 0 : Nat) : Int)) := by
  have h1 := d.hl
  have h2 := d.xl
  rw [d.cell, DL, List.getElem?_append_right (by rw [List.length_map]; omega), List.length_map, h1, Nat.add_sub_cancel_left, List.getElem?_append_left (by rw [bs_length]; omega)]
  exact bs_get (by omega)
theorem Dg.n_at {w : World} {g : Nat} {h : List Int} {x : List Nat} {nx len : Int} (d : Dg w g h x nx len) : w.cell? ⟨g, 136, none⟩ = some (.int .i64 nx) ∧ w.cell? ⟨g, 137, none⟩ = some (.int .u64 len) ∧ w.cell? ⟨g, 138, none⟩ = some (.int .i64 64) := by
  have h1 := d.hl
  have h2 := d.xl
  refine ⟨?_, ?_, ?_⟩ <;>
  · rw [d.cell, DL, List.getElem?_append_right (by rw [List.length_map]; omega), List.length_map, h1, List.getElem?_append_right (by rw [bs_length]; omega), bs_length, h2]
    rfl
theorem Dg.later {w w' : World} {g B : Nat} {h : List Int} {x : List Nat} {nx len : Int} (d : Dg w g h x nx len) (hb : Below B w w') (hg : g < B) : Dg w' g h x nx len := ⟨(hb.block g hg).trans d.row, d.hl, d.xl⟩
theorem Dg.other {w w' : World} {g k : Nat} {h : List Int} {x : List Nat} {nx len : Int} (d : Dg w g h x nx len) (hb : Wr k w w') (hg : g ≠ k) : Dg w' g h x nx len := ⟨(hb.block g d.lt hg).trans d.row, d.hl, d.xl⟩
theorem Dg.set_h {w : World} {g : Nat} {h : List Int} {x : List Nat} {nx len : Int} (d : Dg w g h x nx len) (i : Nat) (hi : i < 8) (v : Int) : Dg (w.setCell ⟨g, i, none⟩ (.int .u64 v)) g (h.set i v) x nx len := by
  have h1 := d.hl
  refine ⟨?_, by rw [List.length_set]; exact d.hl, d.xl⟩
  rw [setCell_heap d.row, List.setIfInBounds_toArray, DL, List.set_append_left _ _ (by rw [List.length_map]; omega), DL, List.map_set]
theorem Dg.set_n {w : World} {g : Nat} {h : List Int} {x : List Nat} {nx len : Int} (d : Dg w g h x nx len) (v : Int) : Dg (w.setCell ⟨g, 136, none⟩ (.int .i64 v)) g h x v len := by
  have h1 := d.hl
  have h2 := d.xl
  refine ⟨?_, d.hl, d.xl⟩
  rw [setCell_heap d.row, List.setIfInBounds_toArray, DL, List.set_append_right _ _ (by rw [List.length_map]; omega), List.length_map, h1, List.set_append_right _ _ (by rw [bs_length]; omega), bs_length, h2]
  rfl
theorem Dg.set_len {w : World} {g : Nat} {h : List Int} {x : List Nat} {nx len : Int} (d : Dg w g h x nx len) (v : Int) : Dg (w.setCell ⟨g, 137, none⟩ (.int .u64 v)) g h x nx v := by
  have h1 := d.hl
  have h2 := d.xl
  refine ⟨?_, d.hl, d.xl⟩
  rw [setCell_heap d.row, List.setIfInBounds_toArray, DL, List.set_append_right _ _ (by rw [List.length_map]; omega), List.length_map, h1, List.set_append_right _ _ (by rw [bs_length]; omega), bs_length, h2]
  rfl
/-- The bytes that wait, laid anew from the start. -/
theorem Dg.splice_x {w : World} {g : Nat} {h : List Int} {x : List Nat} {nx len : Int} (d : Dg w g h x nx len) (o : Nat) (ys : List Nat) (ho : o + ys.length ≤ 128) :
    splice (DL h x nx len) (8 + o) (bs ys) = DL h (x.take o ++ (ys ++ x.drop (o + ys.length))) nx len := by
  have h1 := d.hl
  have h2 := d.xl
  unfold splice DL
  rw [List.take_append, List.length_map, h1, List.take_of_length_le (by rw [List.length_map]; omega), Nat.add_sub_cancel_left, List.take_append_of_le_length (by rw [bs_length]; omega), bs_length,
    List.drop_append, List.length_map, h1, List.drop_of_length_le (by rw [List.length_map]; omega), List.nil_append, show 8 + o + ys.length - 8 = o + ys.length by omega, List.drop_append_of_le_length (by rw [bs_length]; omega)]
  simp only [bs, List.map_append, List.map_take, List.map_drop, List.append_assoc]

/-- Eight bytes as one word. -/
def or8 (x0 x1 x2 x3 x4 x5 x6 x7 : Int) : Int :=
  bits .or .u64 (bits .or .u64 (bits .or .u64 (bits .or .u64 (bits .or .u64 (bits .or .u64 (bits .or .u64 (IntKind.u64.wrap (x0 * 72057594037927936)) (IntKind.u64.wrap (x1 * 281474976710656))) (IntKind.u64.wrap (x2 * 1099511627776))) (IntKind.u64.wrap (x3 * 4294967296))) (IntKind.u64.wrap (x4 * 16777216))) (IntKind.u64.wrap (x5 * 65536))) (IntKind.u64.wrap (x6 * 256))) x7
theorem or_low (A k x : Nat) (hA : A * 2 ^ k < 18446744073709551616) (hx : x < 2 ^ k) (hx2 : x < 18446744073709551616) : bits .or .u64 ((A * 2 ^ k : Nat) : Int) (x : Int) = ((A * 2 ^ k + x : Nat) : Int) := by
  rw [u64_or_nat _ _ hA hx2, Nat.mul_comm A, ← Nat.two_pow_add_eq_or_of_lt hx]
theorem wrap_nat (x m : Nat) (h : x * m < 18446744073709551616) : IntKind.u64.wrap ((x : Int) * (m : Int)) = ((x * m : Nat) : Int) := by
  rw [IntKind.wrap_u64, ← Int.natCast_mul]
  omega
theorem or_step (A x k m m' : Nat) (hm : m = 2 ^ k) (hm' : m' = 2 ^ (k + 8)) (hx : x < 256) (hA : A * m' < 18446744073709551616) (hx2 : x * m < 18446744073709551616) :
    bits .or .u64 ((A * m' : Nat) : Int) ((x * m : Nat) : Int) = (((A * 256 + x) * m : Nat) : Int) := by
  subst hm'
  have hp : 2 ^ (k + 8) = m * 256 := by rw [Nat.pow_add, ← hm]
  have h0 : 0 < m := by rw [hm]; exact Nat.two_pow_pos k
  have hlt : x * m < 2 ^ (k + 8) := by rw [hp, Nat.mul_comm m]; exact Nat.mul_lt_mul_of_pos_right hx h0
  rw [or_low A (k + 8) (x * m) hA hlt hx2, hp]
  congr 1
  rw [Nat.add_mul, Nat.mul_assoc A, Nat.mul_comm m]
theorem or8_val (x0 x1 x2 x3 x4 x5 x6 x7 : Nat) (h0 : x0 < 256) (h1 : x1 < 256) (h2 : x2 < 256) (h3 : x3 < 256) (h4 : x4 < 256) (h5 : x5 < 256) (h6 : x6 < 256) (h7 : x7 < 256) :
    or8 x0 x1 x2 x3 x4 x5 x6 x7 = ((val 256 [x0, x1, x2, x3, x4, x5, x6, x7] : Nat) : Int) := by
  obtain ⟨y1, hy1⟩ : ∃ y, y = x0 * 256 + x1 := ⟨_, rfl⟩
  obtain ⟨y2, hy2⟩ : ∃ y, y = y1 * 256 + x2 := ⟨_, rfl⟩
  obtain ⟨y3, hy3⟩ : ∃ y, y = y2 * 256 + x3 := ⟨_, rfl⟩
  obtain ⟨y4, hy4⟩ : ∃ y, y = y3 * 256 + x4 := ⟨_, rfl⟩
  obtain ⟨y5, hy5⟩ : ∃ y, y = y4 * 256 + x5 := ⟨_, rfl⟩
  obtain ⟨y6, hy6⟩ : ∃ y, y = y5 * 256 + x6 := ⟨_, rfl⟩
  have b1 : y1 < 65536 := by omega
  have b2 : y2 < 16777216 := by omega
  have b3 : y3 < 4294967296 := by omega
  have b4 : y4 < 1099511627776 := by omega
  have b5 : y5 < 281474976710656 := by omega
  have b6 : y6 < 72057594037927936 := by omega
  have s1 := or_step x0 x1 48 281474976710656 72057594037927936 rfl rfl h1 (by omega) (by omega)
  have s2 := or_step y1 x2 40 1099511627776 281474976710656 rfl rfl h2 (by omega) (by omega)
  have s3 := or_step y2 x3 32 4294967296 1099511627776 rfl rfl h3 (by omega) (by omega)
  have s4 := or_step y3 x4 24 16777216 4294967296 rfl rfl h4 (by omega) (by omega)
  have s5 := or_step y4 x5 16 65536 16777216 rfl rfl h5 (by omega) (by omega)
  have s6 := or_step y5 x6 8 256 65536 rfl rfl h6 (by omega) (by omega)
  have s7 := or_step y6 x7 0 1 256 rfl rfl h7 (by omega) (by omega)
  rw [← hy1] at s1
  rw [← hy2] at s2
  rw [← hy3] at s3
  rw [← hy4] at s4
  rw [← hy5] at s5
  rw [← hy6] at s6
  rw [Nat.mul_one, Nat.mul_one] at s7
  have e : val 256 [x0, x1, x2, x3, x4, x5, x6, x7] = y6 * 256 + x7 := by rw [hy6, hy5, hy4, hy3, hy2, hy1]; simp [val]
  rw [e]
  unfold or8
  have e0 : IntKind.u64.wrap ((x0 : Int) * 72057594037927936) = ((x0 * 72057594037927936 : Nat) : Int) := wrap_nat x0 72057594037927936 (by omega)
  have e1 : IntKind.u64.wrap ((x1 : Int) * 281474976710656) = ((x1 * 281474976710656 : Nat) : Int) := wrap_nat x1 281474976710656 (by omega)
  have e2 : IntKind.u64.wrap ((x2 : Int) * 1099511627776) = ((x2 * 1099511627776 : Nat) : Int) := wrap_nat x2 1099511627776 (by omega)
  have e3 : IntKind.u64.wrap ((x3 : Int) * 4294967296) = ((x3 * 4294967296 : Nat) : Int) := wrap_nat x3 4294967296 (by omega)
  have e4 : IntKind.u64.wrap ((x4 : Int) * 16777216) = ((x4 * 16777216 : Nat) : Int) := wrap_nat x4 16777216 (by omega)
  have e5 : IntKind.u64.wrap ((x5 : Int) * 65536) = ((x5 * 65536 : Nat) : Int) := wrap_nat x5 65536 (by omega)
  have e6 : IntKind.u64.wrap ((x6 : Int) * 256) = ((x6 * 256 : Nat) : Int) := wrap_nat x6 256 (by omega)
  rw [e0, e1, e2, e3, e4, e5, e6, s1, s2, s3, s4, s5, s6, s7]
theorem Dg.drew {w : World} {g : Nat} {h : List Int} {x : List Nat} {nx len : Int} (d : Dg w g h x nx len) : Dg w.drew g h x nx len := ⟨d.row, d.hl, d.xl⟩
theorem Wr.drew {g : Nat} {w w' : World} (h : Wr g w w') : Wr g w w'.drew := ⟨h.os, h.tape, h.output, h.size, h.block⟩
theorem block_end {w wr : World} {g : Nat} {s : S8} {x : List Nat} {nx len : Int} (d : Dg wr g s.list x nx len) (h0 : Wr g w wr) (va vb vc vd ve vf vg vh : Int) :
    Dg ((((((((wr.setCell ⟨g, 0, none⟩ (.int .u64 va)).setCell ⟨g, 1, none⟩ (.int .u64 vb)).setCell ⟨g, 2, none⟩ (.int .u64 vc)).setCell ⟨g, 3, none⟩ (.int .u64 vd)).setCell ⟨g, 4, none⟩ (.int .u64 ve)).setCell ⟨g, 5, none⟩ (.int .u64 vf)).setCell ⟨g, 6, none⟩ (.int .u64 vg)).setCell ⟨g, 7, none⟩ (.int .u64 vh)).drew g (S8.list ⟨va, vb, vc, vd, ve, vf, vg, vh⟩) x nx len ∧
    Wr g w ((((((((wr.setCell ⟨g, 0, none⟩ (.int .u64 va)).setCell ⟨g, 1, none⟩ (.int .u64 vb)).setCell ⟨g, 2, none⟩ (.int .u64 vc)).setCell ⟨g, 3, none⟩ (.int .u64 vd)).setCell ⟨g, 4, none⟩ (.int .u64 ve)).setCell ⟨g, 5, none⟩ (.int .u64 vf)).setCell ⟨g, 6, none⟩ (.int .u64 vg)).setCell ⟨g, 7, none⟩ (.int .u64 vh)).drew := by
  obtain ⟨sa, sb, sc, sd, se, sf, sg, sh⟩ := s
  have d1 := d.set_h 0 (by omega) va
  have d2 := d1.set_h 1 (by omega) vb
  have d3 := d2.set_h 2 (by omega) vc
  have d4 := d3.set_h 3 (by omega) vd
  have d5 := d4.set_h 4 (by omega) ve
  have d6 := d5.set_h 5 (by omega) vf
  have d7 := d6.set_h 6 (by omega) vg
  have d8 := d7.set_h 7 (by omega) vh
  simp only [S8.list, List.set_cons_zero, List.set_cons_succ] at d8
  refine ⟨d8.drew, ?_⟩
  have h1 := h0.trans (Wr.setCell (o := 0) wr (.int .u64 va))
  have h2 := h1.trans (Wr.setCell (o := 1) _ (.int .u64 vb))
  have h3 := h2.trans (Wr.setCell (o := 2) _ (.int .u64 vc))
  have h4 := h3.trans (Wr.setCell (o := 3) _ (.int .u64 vd))
  have h5 := h4.trans (Wr.setCell (o := 4) _ (.int .u64 ve))
  have h6 := h5.trans (Wr.setCell (o := 5) _ (.int .u64 vf))
  have h7 := h6.trans (Wr.setCell (o := 6) _ (.int .u64 vg))
  have h8 := h7.trans (Wr.setCell (o := 7) _ (.int .u64 vh))
  exact h8.drew
end Go.Proofs.YtcbpnbfkjdmfgaaDoor.Sha
