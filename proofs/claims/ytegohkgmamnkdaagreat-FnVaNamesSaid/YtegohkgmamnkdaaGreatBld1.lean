/- Numbers written as bytes into a block of the call's own, walked; words for what is written. Condition: room for them. -/
import Derived.Test.YtegohkgmamnkdaaGreatRws
import Derived.Test.YtegohkgmamnkdaaGreatQt
set_option linter.unusedVariables false
namespace Go.Proofs.YtegohkgmamnkdaaGreat.Msg
open Go.ChangeShapes Go.WideShapes Go.ChangeAt Go.RowKit
open Go.Proofs.YtegohkgmamnkdaaGreat.Dig Go.Proofs.YtegohkgmamnkdaaGreat.Mem Go.Proofs.YtegohkgmamnkdaaGreat.Rb

/-- Of what was there the blocks of S alone are written. -/
structure Wr (S : List Nat) (w w' : World) : Prop where
  os : w'.os = w.os
  tape : w'.tape = w.tape
  output : w'.output = w.output
  size : w.heap.size ≤ w'.heap.size
  block : ∀ k, k < w.heap.size → k ∉ S → w'.heap[k]? = w.heap[k]?
theorem Wr.refl (S : List Nat) (w : World) : Wr S w w := ⟨rfl, rfl, rfl, Nat.le_refl _, fun _ _ _ => rfl⟩
theorem Wr.trans {S : List Nat} {a b c : World} (h : Wr S a b) (k : Wr S b c) : Wr S a c :=
  ⟨k.os.trans h.os, k.tape.trans h.tape, k.output.trans h.output, Nat.le_trans h.size k.size, fun i hi hg => (k.block i (Nat.lt_of_lt_of_le hi h.size) hg).trans (h.block i hi hg)⟩
/-- As trans, where the second's blocks are the first's or new. -/
theorem Wr.then {S T : List Nat} {a b c : World} (h : Wr S a b) (k : Wr T b c) (hT : ∀ x ∈ T, x ∈ S ∨ a.heap.size ≤ x) : Wr S a c :=
  ⟨k.os.trans h.os, k.tape.trans h.tape, k.output.trans h.output, Nat.le_trans h.size k.size, fun i hi hg => (k.block i (Nat.lt_of_lt_of_le hi h.size) (fun hm => by
    rcases hT i hm with h1 | h1
    · exact hg h1
    · omega)).trans (h.block i hi hg)⟩
theorem Wr.more {S T : List Nat} {a b : World} (h : Wr S a b) (hT : ∀ x ∈ S, x ∈ T) : Wr T a b := ⟨h.os, h.tape, h.output, h.size, fun i hi hg => h.block i hi fun hm => hg (hT i hm)⟩
theorem Wr.of_below {S : List Nat} {w w' : World} (h : Below w.heap.size w w') : Wr S w w' := ⟨h.os, h.tape, h.output, h.size, fun k hk _ => h.block k hk⟩
theorem Wr.below {S : List Nat} {B : Nat} {w w' : World} (h : Wr S w w') (h1 : ∀ g ∈ S, B ≤ g) (h2 : B ≤ w.heap.size) : Below B w w' :=
  ⟨h.os, h.tape, h.output, h.size, fun k hk => h.block k (by omega) (fun hm => by have := h1 k hm; omega)⟩
theorem Wr.setCell {S : List Nat} {g o : Nat} (w : World) (v : Value) (hg : g ∈ S) : Wr S w (w.setCell ⟨g, o, none⟩ v) :=
  ⟨rfl, rfl, rfl, by simp [World.setCell], fun k _ hk => by simp only [World.setCell, Array.getElem?_modify]; rw [if_neg (by rintro rfl; exact hk hg)]⟩
theorem Wr.drewN {S : List Nat} {w w' : World} (h : Wr S w w') (m : Nat) : Wr S w (w'.drewN m) := ⟨h.os, h.tape, h.output, h.size, h.block⟩

/-- A number as n bytes, the least first. -/
def le : Nat → Nat → List Nat
  | 0, _ => []
  | n + 1, v => v % 256 :: le n (v / 256)
theorem le_length : ∀ n v, (le n v).length = n
  | 0, _ => rfl
  | n + 1, v => by simp [le, le_length n]
theorem le_byte : ∀ n v, ∀ x ∈ le n v, x < 256
  | 0, _, _, h => by simp [le] at h
  | n + 1, v, x, h => by
    rcases List.mem_cons.1 h with rfl | h
    · omega
    · exact le_byte n _ x h
/-- Bytes laid over others. -/
def put (cur : List Nat) (o : Nat) (ys : List Nat) : List Nat := cur.take o ++ (ys ++ cur.drop (o + ys.length))
theorem put_length {cur : List Nat} {o : Nat} {ys : List Nat} (h : o + ys.length ≤ cur.length) : (put cur o ys).length = cur.length := by
  simp only [put, List.length_append, List.length_take, List.length_drop]; omega
theorem put_cons (cur : List Nat) (o y : Nat) (ys : List Nat) (h : o < cur.length) : put cur o (y :: ys) = put (cur.set o y) (o + 1) ys := by
  unfold put
  rw [List.length_cons, show o + (ys.length + 1) = o + 1 + ys.length by omega, List.drop_set_of_lt (by omega), List.take_add_one, List.getElem?_set_self h, List.take_set]
  rw [List.set_eq_of_length_le (by rw [List.length_take]; omega)]
  simp
theorem put_nil (cur : List Nat) (o : Nat) : put cur o [] = cur := by simp [put]

/-- A block that holds bytes from its start on. -/
def Blk (w : World) (g M : Nat) (xs : List Nat) : Prop := ∃ rest : List Value, xs.length + rest.length = M ∧ w.heap[g]? = some (.cells (bs xs ++ rest).toArray 5 (0, 0))
theorem Blk.lt {w : World} {g M : Nat} {xs : List Nat} (h : Blk w g M xs) : g < w.heap.size := by
  obtain ⟨rest, hM, h⟩ := h
  rcases Nat.lt_or_ge g w.heap.size with h' | h'
  · exact h'
  · rw [Array.getElem?_eq_none h'] at h; cases h
theorem Blk.cell {w : World} {g M i : Nat} {xs : List Nat} (h : Blk w g M xs) (hi : i < xs.length) : w.cell? ⟨g, i, none⟩ = some (.int .u8 ((xs.getD i 0 : Nat) : Int)) := by
  obtain ⟨rest, hM, h⟩ := h
  simp only [World.cell?, h]
  have : (bs xs ++ rest)[i]? = some (.int .u8 ((xs.getD i 0 : Nat) : Int)) := by rw [List.getElem?_append_left (by rw [bs_length]; exact hi)]; exact bs_get hi
  simpa using this
theorem Blk.frozen {w : World} {g M i : Nat} {xs : List Nat} (h : Blk w g M xs) : w.frozen? ⟨g, i, none⟩ = false := by obtain ⟨rest, hM, h⟩ := h; simp [World.frozen?, h]
theorem Blk.set {w : World} {g M i : Nat} {xs : List Nat} (h : Blk w g M xs) (v : Nat) (hi : i < xs.length) : Blk (w.setCell ⟨g, i, none⟩ (.int .u8 (v : Int))) g M (xs.set i v) := by
  obtain ⟨rest, hM, h⟩ := h
  refine ⟨rest, by rw [List.length_set]; exact hM, ?_⟩
  have : (bs xs ++ rest).set i (.int .u8 (v : Int)) = bs (xs.set i v) ++ rest := by rw [List.set_append_left _ _ (by rw [bs_length]; exact hi)]; simp [bs, List.map_set]
  rw [← this]
  simp [World.setCell, Array.getElem?_modify, h]
theorem Blk.later {w w' : World} {g M : Nat} {S : List Nat} {xs : List Nat} (h : Blk w g M xs) (hb : Wr S w w') (hg : g ∉ S) : Blk w' g M xs := by
  have hl := h.lt
  obtain ⟨rest, hM, h⟩ := h
  exact ⟨rest, hM, (hb.block g hl hg).trans h⟩

theorem le_put2 (cur : List Nat) (o v : Nat) (h : o + 2 ≤ cur.length) :
    put cur o (le 2 v) = ((cur.set o (v % 256)).set (o + 1) (v / 256 % 256)) := by
  simp only [le]
  rw [put_cons _ _ _ _ (by omega), put_cons _ _ _ _ (by simp only [List.length_set]; omega), put_nil]
theorem le_put4 (cur : List Nat) (o v : Nat) (h : o + 4 ≤ cur.length) :
    put cur o (le 4 v) = ((((cur.set o (v % 256)).set (o + 1) (v / 256 % 256)).set (o + 2) (v / 256 / 256 % 256)).set (o + 3) (v / 256 / 256 / 256 % 256)) := by
  simp only [le]
  rw [put_cons _ _ _ _ (by omega), put_cons _ _ _ _ (by simp only [List.length_set]; omega), put_cons _ _ _ _ (by simp only [List.length_set]; omega), put_cons _ _ _ _ (by simp only [List.length_set]; omega), put_nil]
theorem le_put8 (cur : List Nat) (o v : Nat) (h : o + 8 ≤ cur.length) :
    put cur o (le 8 v) = ((((((((cur.set o (v % 256)).set (o + 1) (v / 256 % 256)).set (o + 2) (v / 256 / 256 % 256)).set (o + 3) (v / 256 / 256 / 256 % 256)).set (o + 4) (v / 256 / 256 / 256 / 256 % 256)).set (o + 5) (v / 256 / 256 / 256 / 256 / 256 % 256)).set (o + 6) (v / 256 / 256 / 256 / 256 / 256 / 256 % 256)).set (o + 7) (v / 256 / 256 / 256 / 256 / 256 / 256 / 256 % 256)) := by
  simp only [le]
  rw [put_cons _ _ _ _ (by omega), put_cons _ _ _ _ (by simp only [List.length_set]; omega), put_cons _ _ _ _ (by simp only [List.length_set]; omega), put_cons _ _ _ _ (by simp only [List.length_set]; omega), put_cons _ _ _ _ (by simp only [List.length_set]; omega), put_cons _ _ _ _ (by simp only [List.length_set]; omega), put_cons _ _ _ _ (by simp only [List.length_set]; omega), put_cons _ _ _ _ (by simp only [List.length_set]; omega), put_nil]

set_option maxRecDepth 100000 in
theorem writeU8 (w : World) (g M o n c v : Nat) (cur : List Nat) (hr : Blk w g M cur) (ho : o < cur.length) (hn : 1 ≤ n) (hv : v < 256) :
    Calls Tryz.prog 130 #[.slice (some ⟨g, o, none⟩) n c, .int .u8 (v : Int)] w fun e w' => e = .returned (.tuple #[]) ∧ Blk w' g M (put cur o (le 1 v)) ∧ Wr [g] w w' := by
  have c0 := hr.cell ho
  have f0 := hr.frozen (i := o)
  have HR := Lib.hid hr
  have h0 : 0 < n := hn
  have HO := Lib.hid ho
  clear hr ho hn
  go_enter Tryz.func130, Tryz.ntmps130
  go_wp2
  go_end0
  refine ⟨rfl, ?_, Wr.setCell _ _ (by simp)⟩
  have h1 := HR.out.set (i := o) v HO.out
  simp only [le]
  rw [put_cons _ _ _ _ HO.out, put_nil, Nat.mod_eq_of_lt hv]
  exact h1

set_option maxRecDepth 100000 in
set_option maxHeartbeats 1000000 in
theorem writeU16 (w : World) (g M o n c v : Nat) (cur : List Nat) (hr : Blk w g M cur) (ho : o + 2 ≤ cur.length) (hn : 2 ≤ n) (hv : v < 65536) :
    Calls Tryz.prog 126 #[.slice (some ⟨g, o, none⟩) n c, .int .u16 (v : Int)] w fun e w' => e = .returned (.tuple #[]) ∧ Blk w' g M (put cur o (le 2 v)) ∧ Wr [g] w w' := by
  have c0 := hr.cell (i := o) (by omega)
  have f0 := hr.frozen (i := o)
  have h0 : 0 < n := by omega
  have c1 := hr.cell (i := o + 1) (by omega)
  have f1 := hr.frozen (i := o + 1)
  have h1 : 1 < n := by omega
  have HR := Lib.hid hr
  have HO := Lib.hid ho
  clear hr ho hn
  go_enter Tryz.func126, Tryz.ntmps126
  go_wp2
  go_end0
  refine ⟨rfl, ?_, ?_⟩
  · have e0 : (v : Int) % 256 = ((v % 256 : Nat) : Int) := by omega
    have e1 : (v : Int) / 256 = ((v / 256 % 256 : Nat) : Int) := by omega
    rw [le_put2 _ _ _ HO.out, e1, e0]
    exact ((HR.out.set (i := o) (v % 256) (by have := HO.out; simp; omega)).set (i := o + 1) (v / 256 % 256) (by have := HO.out; simp; omega))
  · exact (Wr.setCell _ _ (by simp)).trans (Wr.setCell _ _ (by simp))

set_option maxRecDepth 100000 in
set_option maxHeartbeats 1000000 in
theorem writeU32 (w : World) (g M o n c v : Nat) (cur : List Nat) (hr : Blk w g M cur) (ho : o + 4 ≤ cur.length) (hn : 4 ≤ n) (hv : v < 4294967296) :
    Calls Tryz.prog 160 #[.slice (some ⟨g, o, none⟩) n c, .int .u32 (v : Int)] w fun e w' => e = .returned (.tuple #[]) ∧ Blk w' g M (put cur o (le 4 v)) ∧ Wr [g] w w' := by
  have c0 := hr.cell (i := o) (by omega)
  have f0 := hr.frozen (i := o)
  have h0 : 0 < n := by omega
  have c1 := hr.cell (i := o + 1) (by omega)
  have f1 := hr.frozen (i := o + 1)
  have h1 : 1 < n := by omega
  have c2 := hr.cell (i := o + 2) (by omega)
  have f2 := hr.frozen (i := o + 2)
  have h2 : 2 < n := by omega
  have c3 := hr.cell (i := o + 3) (by omega)
  have f3 := hr.frozen (i := o + 3)
  have h3 : 3 < n := by omega
  have HR := Lib.hid hr
  have HO := Lib.hid ho
  clear hr ho hn
  go_enter Tryz.func160, Tryz.ntmps160
  go_wp2
  go_end0
  refine ⟨rfl, ?_, ?_⟩
  · have e0 : (v : Int) % 256 = ((v % 256 : Nat) : Int) := by omega
    have e1 : (v : Int) / 256 % 256 = ((v / 256 % 256 : Nat) : Int) := by omega
    have e2 : (v : Int) / 65536 % 256 = ((v / 256 / 256 % 256 : Nat) : Int) := by omega
    have e3 : (v : Int) / 16777216 = ((v / 256 / 256 / 256 % 256 : Nat) : Int) := by omega
    rw [le_put4 _ _ _ HO.out, e3, e2, e1, e0]
    exact ((((HR.out.set (i := o) (v % 256) (by have := HO.out; simp; omega)).set (i := o + 1) (v / 256 % 256) (by have := HO.out; simp; omega)).set (i := o + 2) (v / 256 / 256 % 256) (by have := HO.out; simp; omega)).set (i := o + 3) (v / 256 / 256 / 256 % 256) (by have := HO.out; simp; omega))
  · exact (((Wr.setCell _ _ (by simp)).trans (Wr.setCell _ _ (by simp))).trans (Wr.setCell _ _ (by simp))).trans (Wr.setCell _ _ (by simp))

set_option maxRecDepth 100000 in
set_option maxHeartbeats 1000000 in
theorem writeI32 (w : World) (g M o n c v : Nat) (cur : List Nat) (hr : Blk w g M cur) (ho : o + 4 ≤ cur.length) (hn : 4 ≤ n) (hv : v < 2147483648) :
    Calls Tryz.prog 166 #[.slice (some ⟨g, o, none⟩) n c, .int .i32 (v : Int)] w fun e w' => e = .returned (.tuple #[]) ∧ Blk w' g M (put cur o (le 4 v)) ∧ Wr [g] w w' := by
  have c0 := hr.cell (i := o) (by omega)
  have f0 := hr.frozen (i := o)
  have h0 : 0 < n := by omega
  have c1 := hr.cell (i := o + 1) (by omega)
  have f1 := hr.frozen (i := o + 1)
  have h1 : 1 < n := by omega
  have c2 := hr.cell (i := o + 2) (by omega)
  have f2 := hr.frozen (i := o + 2)
  have h2 : 2 < n := by omega
  have c3 := hr.cell (i := o + 3) (by omega)
  have f3 := hr.frozen (i := o + 3)
  have h3 : 3 < n := by omega
  have HR := Lib.hid hr
  have HO := Lib.hid ho
  clear hr ho hn
  go_enter Tryz.func166, Tryz.ntmps166
  go_wp2
  go_end0
  refine ⟨rfl, ?_, ?_⟩
  · have e0 : (v : Int) % 256 = ((v % 256 : Nat) : Int) := by omega
    have e1 : (v : Int) / 256 % 256 = ((v / 256 % 256 : Nat) : Int) := by omega
    have e2 : (v : Int) / 65536 % 256 = ((v / 256 / 256 % 256 : Nat) : Int) := by omega
    have e3 : (v : Int) / 16777216 = ((v / 256 / 256 / 256 % 256 : Nat) : Int) := by omega
    rw [le_put4 _ _ _ HO.out, e3, e2, e1, e0]
    exact ((((HR.out.set (i := o) (v % 256) (by have := HO.out; simp; omega)).set (i := o + 1) (v / 256 % 256) (by have := HO.out; simp; omega)).set (i := o + 2) (v / 256 / 256 % 256) (by have := HO.out; simp; omega)).set (i := o + 3) (v / 256 / 256 / 256 % 256) (by have := HO.out; simp; omega))
  · exact (((Wr.setCell _ _ (by simp)).trans (Wr.setCell _ _ (by simp))).trans (Wr.setCell _ _ (by simp))).trans (Wr.setCell _ _ (by simp))

set_option maxRecDepth 100000 in
set_option maxHeartbeats 1000000 in
theorem writeU64 (w : World) (g M o n c v : Nat) (cur : List Nat) (hr : Blk w g M cur) (ho : o + 8 ≤ cur.length) (hn : 8 ≤ n) (hv : v < 18446744073709551616) :
    Calls Tryz.prog 162 #[.slice (some ⟨g, o, none⟩) n c, .int .u64 (v : Int)] w fun e w' => e = .returned (.tuple #[]) ∧ Blk w' g M (put cur o (le 8 v)) ∧ Wr [g] w w' := by
  have c0 := hr.cell (i := o) (by omega)
  have f0 := hr.frozen (i := o)
  have h0 : 0 < n := by omega
  have c1 := hr.cell (i := o + 1) (by omega)
  have f1 := hr.frozen (i := o + 1)
  have h1 : 1 < n := by omega
  have c2 := hr.cell (i := o + 2) (by omega)
  have f2 := hr.frozen (i := o + 2)
  have h2 : 2 < n := by omega
  have c3 := hr.cell (i := o + 3) (by omega)
  have f3 := hr.frozen (i := o + 3)
  have h3 : 3 < n := by omega
  have c4 := hr.cell (i := o + 4) (by omega)
  have f4 := hr.frozen (i := o + 4)
  have h4 : 4 < n := by omega
  have c5 := hr.cell (i := o + 5) (by omega)
  have f5 := hr.frozen (i := o + 5)
  have h5 : 5 < n := by omega
  have c6 := hr.cell (i := o + 6) (by omega)
  have f6 := hr.frozen (i := o + 6)
  have h6 : 6 < n := by omega
  have c7 := hr.cell (i := o + 7) (by omega)
  have f7 := hr.frozen (i := o + 7)
  have h7 : 7 < n := by omega
  have HR := Lib.hid hr
  have HO := Lib.hid ho
  clear hr ho hn
  go_enter Tryz.func162, Tryz.ntmps162
  go_wp2
  go_end0
  refine ⟨rfl, ?_, ?_⟩
  · have e0 : (v : Int) % 256 = ((v % 256 : Nat) : Int) := by omega
    have e1 : (v : Int) / 256 % 256 = ((v / 256 % 256 : Nat) : Int) := by omega
    have e2 : (v : Int) / 65536 % 256 = ((v / 256 / 256 % 256 : Nat) : Int) := by omega
    have e3 : (v : Int) / 16777216 % 256 = ((v / 256 / 256 / 256 % 256 : Nat) : Int) := by omega
    have e4 : (v : Int) / 4294967296 % 256 = ((v / 256 / 256 / 256 / 256 % 256 : Nat) : Int) := by omega
    have e5 : (v : Int) / 1099511627776 % 256 = ((v / 256 / 256 / 256 / 256 / 256 % 256 : Nat) : Int) := by omega
    have e6 : (v : Int) / 281474976710656 % 256 = ((v / 256 / 256 / 256 / 256 / 256 / 256 % 256 : Nat) : Int) := by omega
    have e7 : (v : Int) / 72057594037927936 = ((v / 256 / 256 / 256 / 256 / 256 / 256 / 256 % 256 : Nat) : Int) := by omega
    rw [le_put8 _ _ _ HO.out, e7, e6, e5, e4, e3, e2, e1, e0]
    exact ((((((((HR.out.set (i := o) (v % 256) (by have := HO.out; simp; omega)).set (i := o + 1) (v / 256 % 256) (by have := HO.out; simp; omega)).set (i := o + 2) (v / 256 / 256 % 256) (by have := HO.out; simp; omega)).set (i := o + 3) (v / 256 / 256 / 256 % 256) (by have := HO.out; simp; omega)).set (i := o + 4) (v / 256 / 256 / 256 / 256 % 256) (by have := HO.out; simp; omega)).set (i := o + 5) (v / 256 / 256 / 256 / 256 / 256 % 256) (by have := HO.out; simp; omega)).set (i := o + 6) (v / 256 / 256 / 256 / 256 / 256 / 256 % 256) (by have := HO.out; simp; omega)).set (i := o + 7) (v / 256 / 256 / 256 / 256 / 256 / 256 / 256 % 256) (by have := HO.out; simp; omega))
  · exact (((((((Wr.setCell _ _ (by simp)).trans (Wr.setCell _ _ (by simp))).trans (Wr.setCell _ _ (by simp))).trans (Wr.setCell _ _ (by simp))).trans (Wr.setCell _ _ (by simp))).trans (Wr.setCell _ _ (by simp))).trans (Wr.setCell _ _ (by simp))).trans (Wr.setCell _ _ (by simp))
end Go.Proofs.YtegohkgmamnkdaaGreat.Msg
