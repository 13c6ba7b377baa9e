/- The generated writers of a node's fields, walked: each calls the builder's own. No condition. -/
import Derived.Test.YtegohkgmamnkdaaGreatNew
import Derived.Test.YtegohkgmamnkdaaGreatWr4
set_option linter.unusedVariables false
namespace Go.Proofs.YtegohkgmamnkdaaGreat.Msg
open Go.ChangeShapes Go.WideShapes Go.ChangeAt Go.RowKit
open Go.Proofs.YtegohkgmamnkdaaGreat.Dig Go.Proofs.YtegohkgmamnkdaaGreat.Mem Go.Proofs.YtegohkgmamnkdaaGreat.Rb

theorem nAddKeyItems (w : World) (B : Nat) (v : Int) (Q : World → Prop) (h : Calls Tryz.prog 75 #[.pointer (some ⟨B, 0, none⟩), .int .i64 0, .int .u32 v, .int .u32 0] w fun e w' => e = .returned (.tuple #[]) ∧ Q w') :
    Calls Tryz.prog 52 #[.pointer (some ⟨B, 0, none⟩), .int .u32 v] w fun e w' => e = .returned (.tuple #[]) ∧ Q w' := by
  have K := Lib.hid h
  clear h
  go_enter Tryz.func52, Tryz.ntmps52
  go_wp2_with (go_at_call 75; (with_reducible refine K.out.mono ?_); rintro e w1 ⟨rfl, h1⟩; have H1 := Lib.hid h1; clear h1)
  go_end0
  exact ⟨rfl, H1.out⟩

theorem nAddKeyOffsets (w : World) (B : Nat) (v : Int) (Q : World → Prop) (h : Calls Tryz.prog 75 #[.pointer (some ⟨B, 0, none⟩), .int .i64 1, .int .u32 v, .int .u32 0] w fun e w' => e = .returned (.tuple #[]) ∧ Q w') :
    Calls Tryz.prog 53 #[.pointer (some ⟨B, 0, none⟩), .int .u32 v] w fun e w' => e = .returned (.tuple #[]) ∧ Q w' := by
  have K := Lib.hid h
  clear h
  go_enter Tryz.func53, Tryz.ntmps53
  go_wp2_with (go_at_call 75; (with_reducible refine K.out.mono ?_); rintro e w1 ⟨rfl, h1⟩; have H1 := Lib.hid h1; clear h1)
  go_end0
  exact ⟨rfl, H1.out⟩

theorem nAddValueItems (w : World) (B : Nat) (v : Int) (Q : World → Prop) (h : Calls Tryz.prog 75 #[.pointer (some ⟨B, 0, none⟩), .int .i64 3, .int .u32 v, .int .u32 0] w fun e w' => e = .returned (.tuple #[]) ∧ Q w') :
    Calls Tryz.prog 54 #[.pointer (some ⟨B, 0, none⟩), .int .u32 v] w fun e w' => e = .returned (.tuple #[]) ∧ Q w' := by
  have K := Lib.hid h
  clear h
  go_enter Tryz.func54, Tryz.ntmps54
  go_wp2_with (go_at_call 75; (with_reducible refine K.out.mono ?_); rintro e w1 ⟨rfl, h1⟩; have H1 := Lib.hid h1; clear h1)
  go_end0
  exact ⟨rfl, H1.out⟩

theorem nAddValueOffsets (w : World) (B : Nat) (v : Int) (Q : World → Prop) (h : Calls Tryz.prog 75 #[.pointer (some ⟨B, 0, none⟩), .int .i64 4, .int .u32 v, .int .u32 0] w fun e w' => e = .returned (.tuple #[]) ∧ Q w') :
    Calls Tryz.prog 55 #[.pointer (some ⟨B, 0, none⟩), .int .u32 v] w fun e w' => e = .returned (.tuple #[]) ∧ Q w' := by
  have K := Lib.hid h
  clear h
  go_enter Tryz.func55, Tryz.ntmps55
  go_wp2_with (go_at_call 75; (with_reducible refine K.out.mono ?_); rintro e w1 ⟨rfl, h1⟩; have H1 := Lib.hid h1; clear h1)
  go_end0
  exact ⟨rfl, H1.out⟩

theorem nAddAddressArray (w : World) (B : Nat) (v : Int) (Q : World → Prop) (h : Calls Tryz.prog 75 #[.pointer (some ⟨B, 0, none⟩), .int .i64 7, .int .u32 v, .int .u32 0] w fun e w' => e = .returned (.tuple #[]) ∧ Q w') :
    Calls Tryz.prog 57 #[.pointer (some ⟨B, 0, none⟩), .int .u32 v] w fun e w' => e = .returned (.tuple #[]) ∧ Q w' := by
  have K := Lib.hid h
  clear h
  go_enter Tryz.func57, Tryz.ntmps57
  go_wp2_with (go_at_call 75; (with_reducible refine K.out.mono ?_); rintro e w1 ⟨rfl, h1⟩; have H1 := Lib.hid h1; clear h1)
  go_end0
  exact ⟨rfl, H1.out⟩

theorem nAddSubtreeCounts (w : World) (B : Nat) (v : Int) (Q : World → Prop) (h : Calls Tryz.prog 75 #[.pointer (some ⟨B, 0, none⟩), .int .i64 8, .int .u32 v, .int .u32 0] w fun e w' => e = .returned (.tuple #[]) ∧ Q w') :
    Calls Tryz.prog 58 #[.pointer (some ⟨B, 0, none⟩), .int .u32 v] w fun e w' => e = .returned (.tuple #[]) ∧ Q w' := by
  have K := Lib.hid h
  clear h
  go_enter Tryz.func58, Tryz.ntmps58
  go_wp2_with (go_at_call 75; (with_reducible refine K.out.mono ?_); rintro e w1 ⟨rfl, h1⟩; have H1 := Lib.hid h1; clear h1)
  go_end0
  exact ⟨rfl, H1.out⟩

theorem nAddTreeCount (w : World) (B : Nat) (v : Int) (Q : World → Prop) (h : Calls Tryz.prog 76 #[.pointer (some ⟨B, 0, none⟩), .int .i64 9, .int .u64 v, .int .u64 0] w fun e w' => e = .returned (.tuple #[]) ∧ Q w') :
    Calls Tryz.prog 56 #[.pointer (some ⟨B, 0, none⟩), .int .u64 v] w fun e w' => e = .returned (.tuple #[]) ∧ Q w' := by
  have K := Lib.hid h
  clear h
  go_enter Tryz.func56, Tryz.ntmps56
  go_wp2_with (go_at_call 76; (with_reducible refine K.out.mono ?_); rintro e w1 ⟨rfl, h1⟩; have H1 := Lib.hid h1; clear h1)
  go_end0
  exact ⟨rfl, H1.out⟩

theorem nAddKeyType (w : World) (B : Nat) (v : Int) (Q : World → Prop) (h : Calls Tryz.prog 77 #[.pointer (some ⟨B, 0, none⟩), .int .i64 2, .int .u8 v, .int .u8 0] w fun e w' => e = .returned (.tuple #[]) ∧ Q w') :
    Calls Tryz.prog 59 #[.pointer (some ⟨B, 0, none⟩), .int .u8 v] w fun e w' => e = .returned (.tuple #[]) ∧ Q w' := by
  have K := Lib.hid h
  clear h
  go_enter Tryz.func59, Tryz.ntmps59
  go_wp2_with (go_at_call 77; (with_reducible refine K.out.mono ?_); rintro e w1 ⟨rfl, h1⟩; have H1 := Lib.hid h1; clear h1)
  go_end0
  exact ⟨rfl, H1.out⟩

theorem nAddValueType (w : World) (B : Nat) (v : Int) (Q : World → Prop) (h : Calls Tryz.prog 77 #[.pointer (some ⟨B, 0, none⟩), .int .i64 5, .int .u8 v, .int .u8 0] w fun e w' => e = .returned (.tuple #[]) ∧ Q w') :
    Calls Tryz.prog 60 #[.pointer (some ⟨B, 0, none⟩), .int .u8 v] w fun e w' => e = .returned (.tuple #[]) ∧ Q w' := by
  have K := Lib.hid h
  clear h
  go_enter Tryz.func60, Tryz.ntmps60
  go_wp2_with (go_at_call 77; (with_reducible refine K.out.mono ?_); rintro e w1 ⟨rfl, h1⟩; have H1 := Lib.hid h1; clear h1)
  go_end0
  exact ⟨rfl, H1.out⟩

theorem nAddTreeLevel (w : World) (B : Nat) (v : Int) (Q : World → Prop) (h : Calls Tryz.prog 77 #[.pointer (some ⟨B, 0, none⟩), .int .i64 10, .int .u8 v, .int .u8 0] w fun e w' => e = .returned (.tuple #[]) ∧ Q w') :
    Calls Tryz.prog 61 #[.pointer (some ⟨B, 0, none⟩), .int .u8 v] w fun e w' => e = .returned (.tuple #[]) ∧ Q w' := by
  have K := Lib.hid h
  clear h
  go_enter Tryz.func61, Tryz.ntmps61
  go_wp2_with (go_at_call 77; (with_reducible refine K.out.mono ?_); rintro e w1 ⟨rfl, h1⟩; have H1 := Lib.hid h1; clear h1)
  go_end0
  exact ⟨rfl, H1.out⟩

theorem nStart (w : World) (B : Nat)  (Q : World → Prop) (h : Calls Tryz.prog 74 #[.pointer (some ⟨B, 0, none⟩), .int .i64 11] w fun e w' => e = .returned (.tuple #[]) ∧ Q w') :
    Calls Tryz.prog 51 #[.pointer (some ⟨B, 0, none⟩)] w fun e w' => e = .returned (.tuple #[]) ∧ Q w' := by
  have K := Lib.hid h
  clear h
  go_enter Tryz.func51, Tryz.ntmps51
  go_wp2_with (go_at_call 74; (with_reducible refine K.out.mono ?_); rintro e w1 ⟨rfl, h1⟩; have H1 := Lib.hid h1; clear h1)
  go_end0
  exact ⟨rfl, H1.out⟩

theorem nStartKeyOffsets (w : World) (B : Nat) (v : Int) (Q : World → Prop) (h : Calls Tryz.prog 69 #[.pointer (some ⟨B, 0, none⟩), .int .i64 2, .int .i64 v, .int .i64 2] w fun e w' => (∃ v, e = .returned (.int .u32 v)) ∧ Q w') :
    Calls Tryz.prog 49 #[.pointer (some ⟨B, 0, none⟩), .int .i64 v] w fun e w' => (∃ v, e = .returned (.int .u32 v)) ∧ Q w' := by
  have K := Lib.hid h
  clear h
  go_enter Tryz.func49, Tryz.ntmps49
  go_wp2_with (go_at_call 69; (with_reducible refine K.out.mono ?_); rintro e w1 ⟨⟨v, rfl⟩, h1⟩; have H1 := Lib.hid h1; clear h1)
  go_ret
  exact ⟨⟨v, rfl⟩, H1.out⟩

theorem nStartValueOffsets (w : World) (B : Nat) (v : Int) (Q : World → Prop) (h : Calls Tryz.prog 69 #[.pointer (some ⟨B, 0, none⟩), .int .i64 2, .int .i64 v, .int .i64 2] w fun e w' => (∃ v, e = .returned (.int .u32 v)) ∧ Q w') :
    Calls Tryz.prog 50 #[.pointer (some ⟨B, 0, none⟩), .int .i64 v] w fun e w' => (∃ v, e = .returned (.int .u32 v)) ∧ Q w' := by
  have K := Lib.hid h
  clear h
  go_enter Tryz.func50, Tryz.ntmps50
  go_wp2_with (go_at_call 69; (with_reducible refine K.out.mono ?_); rintro e w1 ⟨⟨v, rfl⟩, h1⟩; have H1 := Lib.hid h1; clear h1)
  go_ret
  exact ⟨⟨v, rfl⟩, H1.out⟩

theorem nEnd (w : World) (B : Nat) (v : Int) (Q : World → Prop) (h : Calls Tryz.prog 80 #[.pointer (some ⟨B, 0, none⟩)] w fun e w' => e = .returned (.int .u32 v) ∧ Q w') :
    Calls Tryz.prog 62 #[.pointer (some ⟨B, 0, none⟩)] w fun e w' => e = .returned (.int .u32 v) ∧ Q w' := by
  have K := Lib.hid h
  clear h
  go_enter Tryz.func62, Tryz.ntmps62
  go_wp2_with (go_at_call 80; (with_reducible refine K.out.mono ?_); rintro e w1 ⟨rfl, h1⟩; have H1 := Lib.hid h1; clear h1)
  go_ret
  exact ⟨rfl, H1.out⟩
end Go.Proofs.YtegohkgmamnkdaaGreat.Msg
/- A builder of the size that a map's node is thought to need, walked. Condition: at most 200 items, 20000 bytes. -/
set_option linter.unusedVariables false
namespace Go.Proofs.YtegohkgmamnkdaaGreat.Msg
open Go.ChangeShapes Go.WideShapes Go.ChangeAt Go.RowKit
open Go.Proofs.YtegohkgmamnkdaaGreat.Dig Go.Proofs.YtegohkgmamnkdaaGreat.Mem Go.Proofs.YtegohkgmamnkdaaGreat.Rb

set_option maxRecDepth 100000 in
theorem getBuilder (w : World) (n : Nat) (hn : n ≤ 100000) (h0 : 0 < n) :
    Calls Tryz.prog 20 #[.iface 48 (.int .u8 0), .int .i64 (n : Int)] w fun e w' => e = .returned (.pointer (some ⟨w.heap.size, 0, none⟩)) ∧ Bx w w' w.heap.size n 0 [(w.heap.size + 2, UO (List.replicate 16 0))] [] (St0 (w.heap.size + 2)) := by
  have K1 := Lib.hid (newBuilder w)
  go_enter Tryz.func20, Tryz.ntmps20
  go_wp2_with (first
    | (go_at_call 64; (with_reducible refine K1.out.mono ?_); rintro e w1 ⟨rfl, h1⟩; have H1 := Lib.hid h1; have r1 : (w1.alloc (.cells (bs (List.replicate n 0)).toArray 5)).heap[w.heap.size]? = some (.cells ((St0 (w.heap.size + 2)).cells (w.heap.size + 1) 0 0 0) 95 (0, 0)) := (Below.heap_alloc _ _ _ (by have := h1.size; omega)).trans h1.row; have f1 := free_of_row r1 0; have c1 : (w1.alloc (.cells (bs (List.replicate n 0)).toArray 5)).cell? ⟨w.heap.size, 0, none⟩ = some (.slice (some ⟨w.heap.size + 1, 0, none⟩) 0 0) := (by simp only [World.cell?, r1]; rfl); have r2 := setCell_heap (o := 0) (v := .slice (some ⟨w1.heap.size, 0, none⟩) n n) r1; have K2 := Lib.hid (reset _ w.heap.size w1.heap.size n (w.heap.size + 2) r2 hn); clear h1)
    | (go_at_call 205; (with_reducible refine (poolGet w1 n (by omega)).mono ?_); rintro e w2 ⟨rfl, rfl⟩)
    | (go_at_call 65; (with_reducible refine K2.out.mono ?_); rintro e w3 ⟨rfl, h3, h4⟩; have H3 := Lib.hid h3; have H4 := Lib.hid h4; clear h3 h4))
  go_ret
  have hs1 := H1.out.size
  have hbl : Blk (w1.alloc (.cells (bs (List.replicate n 0)).toArray 5)) w1.heap.size n (List.replicate n 0) := ⟨[], by simp, by rw [List.append_nil]; exact heap_alloc_new _ _⟩
  have hbl2 : Blk w3 w1.heap.size n (List.replicate n 0 ++ []) := by
    rw [List.append_nil]
    exact (hbl.other (by omega)).later H4.out (by simp; omega)
  have hw : Wr [w.heap.size] (w1.alloc (.cells (bs (List.replicate n 0)).toArray 5)) w3 := (Wr.setCell _ _ (by simp)).trans H4.out
  have hbel : Below w.heap.size w w3 := (H1.out.bel.alloc (by omega) _).trans (hw.below (by simp) (by simp; omega))
  refine ⟨rfl, w1.heap.size, n, n, n, ⟨⟨List.replicate n 0, H3.out, hbl2, by simp, by simp, Nat.le_refl _, by omega, by simp, by simp, by omega, by unfold maxLen; omega⟩, Or.inl ⟨rfl, rfl⟩, Nat.zero_le _, hbel, Nat.le_refl _, by omega, fun p hp => ?_⟩⟩
  obtain rfl : p = (w.heap.size + 2, UO (List.replicate 16 0)) := by simpa using hp
  refine ⟨?_, by simp, by simp only; omega, by simp⟩
  exact (hw.block _ (by simp; omega) (by simp)).trans ((Below.heap_alloc _ _ _ (by omega)).trans H1.out.vt)
end Go.Proofs.YtegohkgmamnkdaaGreat.Msg
/- What a node's message is, as a plain list of bytes; the builder's steps in these words. Condition: the builder grows once at most. -/
set_option linter.unusedVariables false
namespace Go.Proofs.YtegohkgmamnkdaaGreat.Msg
open Go.ChangeShapes Go.WideShapes Go.ChangeAt Go.RowKit
open Go.Proofs.YtegohkgmamnkdaaGreat.Dig Go.Proofs.YtegohkgmamnkdaaGreat.Mem Go.Proofs.YtegohkgmamnkdaaGreat.Rb

def zr (n : Nat) : List Nat := List.replicate n 0
theorem zr_length (n : Nat) : (zr n).length = n := List.length_replicate
/-- A vector of bytes ahead of xs. -/
def vec (ys xs : List Nat) : List Nat := le 4 ys.length ++ (ys ++ (zr (padOf 4 (xs.length + ys.length)) ++ xs))
/-- The offsets of m rows ahead of xs. -/
def offv (fs : List Fld) (m : Nat) (xs : List Nat) : List Nat := le 4 (m - 1) ++ (ofb fs 1 (m - 1) ++ (zr (padOf 4 (xs.length + 2 * (m - 1))) ++ xs))
theorem vec_length (ys xs : List Nat) : (vec ys xs).length = padOf 4 (xs.length + ys.length) + xs.length + ys.length + 4 := by
  simp only [vec, List.length_append, le_length, zr_length]; omega
theorem offv_length (fs : List Fld) (m : Nat) (xs : List Nat) : (offv fs m xs).length = padOf 4 (xs.length + 2 * (m - 1)) + xs.length + 2 * (m - 1) + 4 := by
  simp only [offv, List.length_append, le_length, zr_length, ofb_length]; omega
/-- A field of the object: a distance; a number of k bytes, none where it is 0. -/
def ysU (off : Nat) (xs : List Nat) : List Nat := le 4 (xs.length + padOf 4 xs.length - off + 4) ++ (zr (padOf 4 xs.length) ++ xs)
def ysN (k v : Nat) (xs : List Nat) : List Nat := le k v ++ (zr (padOf k xs.length) ++ xs)
def putU (i off : Nat) (p : List Nat × List Nat) : List Nat × List Nat := (p.1.set i (ysU off p.2).length, ysU off p.2)
def putN (k i v : Nat) (p : List Nat × List Nat) : List Nat × List Nat := if v = 0 then p else (p.1.set i (ysN k v p.2).length, ysN k v p.2)
theorem ysU_length (off : Nat) (xs : List Nat) : (ysU off xs).length = xs.length + padOf 4 xs.length + 4 := by
  simp only [ysU, List.length_append, le_length, zr_length]; omega
theorem ysN_length (k v : Nat) (xs : List Nat) : (ysN k v xs).length = xs.length + padOf k xs.length + k := by
  simp only [ysN, List.length_append, le_length, zr_length]; omega
/-- The object's end: the table of its fields ahead of it, and itself. -/
def endO (vs xs : List Nat) (oe t : Nat) : List Nat :=
  le 2 ((t + 2) * 2) ++ (le 2 (xs.length + padOf 4 xs.length + 4 - oe) ++ (vtb vs (xs.length + padOf 4 xs.length + 4) 0 t ++ (le 4 (2 * t + 4) ++ (zr (padOf 4 xs.length) ++ xs))))
/-- The message: the root's place, the identifier, the rest. -/
def finO (ma q : Nat) (fid xs : List Nat) : List Nat := le 4 (padOf ma (xs.length + 8) + xs.length + 4 - q + 4) ++ (fid ++ (zr (padOf ma (xs.length + 8)) ++ xs))

/-- A list that an object under way is: its fields' places stay in it. -/
structure Und (n : Nat) (p : List Nat × List Nat) (L M : Nat) : Prop where
  len : p.1.length = n
  le : ∀ v ∈ p.1, v ≤ p.2.length
  top : p.2.length ≤ M
  low : L ≤ p.2.length
  lo : ∀ v ∈ p.1, v = 0 ∨ L ≤ v
theorem und_set {n L M M' : Nat} {p : List Nat × List Nat} (h : Und n p L M) (i : Nat) (ys : List Nat) (h1 : p.2.length ≤ ys.length) (h2 : ys.length ≤ M') : Und n (p.1.set i ys.length, ys) L M' :=
  ⟨by rw [List.length_set]; exact h.len, fun v hv => by
    rcases List.mem_or_eq_of_mem_set hv with h3 | h3
    · exact Nat.le_trans (h.le v h3) h1
    · rw [h3]; exact Nat.le_refl _, h2, Nat.le_trans h.low h1, fun v hv => by
    rcases List.mem_or_eq_of_mem_set hv with h3 | h3
    · exact h.lo v h3
    · rw [h3]; exact Or.inr (Nat.le_trans h.low h1)⟩
theorem und_start (n : Nat) (xs : List Nat) : Und n (zr n, xs) xs.length xs.length := by
  have hz : ∀ v ∈ zr n, v = 0 := fun v hv => (List.mem_replicate.1 hv).2
  exact ⟨zr_length n, fun v hv => by rw [hz v hv]; omega, Nat.le_refl _, Nat.le_refl _, fun v hv => Or.inl (hz v hv)⟩
theorem und_U {n L M : Nat} {p : List Nat × List Nat} (h : Und n p L M) (i off : Nat) : Und n (putU i off p) L (M + 7) := by
  have := padOf_lt 4 p.2.length (by omega)
  have := h.top
  exact und_set h i _ (by rw [ysU_length]; omega) (by rw [ysU_length]; omega)
theorem und_N {n L M k : Nat} {p : List Nat × List Nat} (h : Und n p L M) (hk : 0 < k) (i v : Nat) : Und n (putN k i v p) L (M + 2 * k) := by
  unfold putN
  have := padOf_lt k p.2.length hk
  have := h.top
  split
  · exact ⟨h.len, h.le, by omega, h.low, h.lo⟩
  · exact und_set h i _ (by rw [ysN_length]; omega) (by rw [ysN_length]; omega)

section
variable {w0 w : World} {B N0 r V n L M : Nat} {K : List (Nat × Obj)} {p : List Nat × List Nat} {s : St}
theorem mx_of {a b : Nat} (h : b ≤ a) : mx a b = a := by unfold mx; rw [if_neg (by omega)]
theorem st_ma {a : Nat} (h : a ≤ s.ma) : ({ s with ma := mx s.ma a } : St) = s := by rw [mx_of h]
theorem stepU (h : Bx w0 w B N0 r ((V, UO p.1) :: K) p.2 s) (hf : Fine N0 s) (hV : ∀ q ∈ K, q.1 ≠ V) (hvt : s.vt = .slice (some ⟨V, 0, none⟩) n n) (u : Und n p L M) (hM : M + 20 < N0 * 2) (hma : 4 ≤ s.ma) (i off : Nat) (hi : i < n) (hoff : off ≤ p.2.length) (h0 : 0 < off) (O : Int) (hO : O = (i : Int)) :
    Calls Tryz.prog 75 #[.pointer (some ⟨B, 0, none⟩), .int .i64 O, .int .u32 (off : Int), .int .u32 0] w fun e w' => e = .returned (.tuple #[]) ∧ Bx w0 w' B N0 0 ((V, UO (putU i off p).1) :: K) (putU i off p).2 s := by
  have h4 := padOf_lt 4 p.2.length (by omega)
  have ht := u.top
  have := uoSlot w0 w B N0 r V n i (padOf 4 p.2.length) off _ K p.1 p.2 (ysU off p.2) s h hf hV hvt u.len hi rfl (by omega) hoff h0 rfl rfl O hO
  exact this.mono fun e w' ⟨he, hb⟩ => ⟨he, bx_st hb (st_ma hma)⟩
theorem stepB (h : Bx w0 w B N0 r ((V, UO p.1) :: K) p.2 s) (hf : Fine N0 s) (hV : ∀ q ∈ K, q.1 ≠ V) (hvt : s.vt = .slice (some ⟨V, 0, none⟩) n n) (u : Und n p L M) (hM : M + 20 < N0 * 2) (hma : 1 ≤ s.ma) (i v : Nat) (hi : i < n) (hv : v < 256) (O : Int) (hO : O = (i : Int)) (X : Int) (hX : X = (v : Int)) :
    Calls Tryz.prog 77 #[.pointer (some ⟨B, 0, none⟩), .int .i64 O, .int .u8 X, .int .u8 0] w fun e w' => e = .returned (.tuple #[]) ∧ Bx w0 w' B N0 0 ((V, UO (putN 1 i v p).1) :: K) (putN 1 i v p).2 s := by
  subst hX
  unfold putN
  split
  · next h0 =>
    subst h0
    exact (byteSlot0 w B O).mono fun e w' ⟨he, hb⟩ => ⟨he, hb ▸ h.less (Nat.zero_le _)⟩
  · next h0 =>
    have h4 := padOf_lt 1 p.2.length (by omega)
    have ht := u.top
    have := byteSlot w0 w B N0 r V n i (padOf 1 p.2.length) v K p.1 p.2 (ysN 1 v p.2) s h hf hV hvt u.len hi rfl (by omega) hv (by omega) rfl O hO
    exact this.mono fun e w' ⟨he, hb⟩ => ⟨he, bx_st hb (st_ma hma)⟩
/-- The greatest alignment behind a number of eight bytes. -/
def ma8 (s : St) (v : Nat) : St := if v = 0 then s else { s with ma := mx s.ma 8 }
theorem step8 (h : Bx w0 w B N0 r ((V, UO p.1) :: K) p.2 s) (hf : Fine N0 s) (hV : ∀ q ∈ K, q.1 ≠ V) (hvt : s.vt = .slice (some ⟨V, 0, none⟩) n n) (u : Und n p L M) (hM : M + 20 < N0 * 2) (i v : Nat) (hi : i < n) (hv : v < 18446744073709551616) (O : Int) (hO : O = (i : Int)) :
    Calls Tryz.prog 76 #[.pointer (some ⟨B, 0, none⟩), .int .i64 O, .int .u64 (v : Int), .int .u64 0] w fun e w' => e = .returned (.tuple #[]) ∧ Bx w0 w' B N0 0 ((V, UO (putN 8 i v p).1) :: K) (putN 8 i v p).2 (ma8 s v) := by
  unfold putN ma8
  split
  · next h0 =>
    subst h0
    exact (u64Slot0 w B O).mono fun e w' ⟨he, hb⟩ => ⟨he, hb ▸ h.less (Nat.zero_le _)⟩
  · next h0 =>
    have h4 := padOf_lt 8 p.2.length (by omega)
    have ht := u.top
    exact u64Slot w0 w B N0 r V n i (padOf 8 p.2.length) v K p.1 p.2 (ysN 8 v p.2) s h hf hV hvt u.len hi rfl (by omega) hv (by omega) rfl O hO
/-- The object's end, in these words. -/
theorem stepEnd {VT t oe : Nat} {us' : List Nat} (h : Bx w0 w B N0 r ((V, UO p.1) :: (VT, UO us') :: K) p.2 s) (hf : Fine N0 s) (hs : s.ne = true) (hV : ∀ q ∈ K, q.1 ≠ V ∧ q.1 ≠ VT) (hVV : VT ≠ V) (hvt : s.vt = .slice (some ⟨V, 0, none⟩) n n) (hvts : s.vts = .slice (some ⟨VT, 0, none⟩) 0 16) (hu : us'.length = 16)
    (hoe : s.oe = oe) (u : Und n p oe M) (hn2 : n ≤ 20) (ht0 : 0 < t) (htn : t ≤ n) (hlast : p.1.getD (t - 1) 0 ≠ 0) (hz : ∀ i, t ≤ i → i < n → p.1.getD i 0 = 0) (hM : M + 80 < N0 * 2) (hM2 : M ≤ oe + 1000) (hma : 4 ≤ s.ma) (Q : Nat) (hQ : Q = p.2.length + padOf 4 p.2.length + 4) :
    Calls Tryz.prog 80 #[.pointer (some ⟨B, 0, none⟩)] w fun e w' => e = .returned (.int .u32 (Q : Int)) ∧ Bx w0 w' B N0 0 K (endO p.1 p.2 oe t) { s with vt := .slice (some ⟨V, 0, none⟩) 0 n, vts := .slice (some ⟨VT, 0, none⟩) 1 16, ne := false } := by
  subst hQ
  have h4 := padOf_lt 4 p.2.length (by omega)
  have ht := u.top
  have hl := u.low
  have := endObject w0 w B N0 r V VT n t (padOf 4 p.2.length) (p.2.length + padOf 4 p.2.length + 4) (p.2.length + padOf 4 p.2.length + 4) (p.2.length + padOf 4 p.2.length + 4 - oe) K p.1 us' p.2 s h hf hs hV hVV hvt hvts hu u.len hn2 ht0 htn hlast hz u.le (by rw [hoe]; exact hl) rfl rfl rfl (by rw [hoe]) (by omega) (fun v hv => by
    unfold fo
    split
    · omega
    · rcases u.lo v hv with h5 | h5 <;> omega) (by omega)
  refine this.mono fun e w' ⟨he, hb⟩ => ⟨he, ?_⟩
  rw [mx_of hma] at hb
  exact hb
end
end Go.Proofs.YtegohkgmamnkdaaGreat.Msg
/- The size that a map's node is thought to need, walked. Condition: at most 200 items, 20000 bytes. -/
set_option linter.unusedVariables false
namespace Go.Proofs.YtegohkgmamnkdaaGreat.Msg
open Go.ChangeShapes Go.WideShapes Go.ChangeAt Go.RowKit
open Go.Proofs.YtegohkgmamnkdaaGreat.Dig Go.Proofs.YtegohkgmamnkdaaGreat.Mem Go.Proofs.YtegohkgmamnkdaaGreat.Rb

set_option maxRecDepth 100000 in
set_option maxHeartbeats 1000000 in
theorem estMap (w : World) (a b d : Option Addr) (m c c' k ck kn vn Z : Nat) (fs gs : List Fld) (h : Flds w a m c fs) (h' : Flds w b m c' gs) (hm : m ≤ 200) (hk : k ≤ 200) (hkn : kn = total fs) (hvn : vn = total gs) (hkb : kn ≤ 20010) (hvb : vn ≤ 20010)
    (hZ : Z = kn + vn + 10 * k + 4 * m + 183) :
    Calls Tryz.prog 48 #[.slice a m c, .slice b m c', .slice d k ck] w fun e w' => e = .returned (.tuple #[.int .i64 (kn : Int), .int .i64 (vn : Int), .int .i64 (Z : Int)]) ∧ w = w' := by
  have H := Lib.hid h
  have H' := Lib.hid h'
  have HK := Lib.hid hkn
  have HV := Lib.hid hvn
  have q1 : (kn : Int) + (vn : Int) + (k : Int) * 10 + ((m : Int) * 2 + (m : Int) * 2) + 11 + 72 + 100 = (Z : Int) := by omega
  have HZ := Lib.hid hZ
  have hc1 := h.le
  have hc2 := h.top
  have hc3 := h'.le
  have hc4 := h'.top
  unfold maxLen at hc2 hc4
  clear h h' hkn hvn hZ
  go_enter Tryz.func48, Tryz.ntmps48
  go_wp2_with fail
  go_loopw [6, 7, 13] (fun kv vv iv wr => ∃ i s t : Nat, i ≤ m ∧ iv = .int .i64 (i : Int) ∧ kv = .int .i64 (s : Int) ∧ vv = .int .i64 (t : Int) ∧ s = total (fs.take i) ∧ t = total (gs.take i) ∧ w = wr) (fun _ _ iv _ => m - (intOf iv).toNat)
  case atStart => exact ⟨0, 0, 0, by omega, rfl, rfl, rfl, rfl, rfl, rfl⟩
  case round =>
    obtain ⟨i, s, t, hi, rfl, rfl, rfl, hs, ht, rfl⟩ := hrel
    have hsb : s ≤ 20010 := by rw [hs]; exact Nat.le_trans (total_take_le _ _) (by rw [← HK.out]; exact hkb)
    have htb : t ≤ 20010 := by rw [ht]; exact Nat.le_trans (total_take_le _ _) (by rw [← HV.out]; exact hvb)
    have HS := Lib.hid hs
    have HT := Lib.hid ht
    clear hs ht
    by_cases hlt : i < m
    · obtain ⟨b1, o1, e1, _, hcell1⟩ := H.out.at_ (by omega)
      obtain ⟨b2, o2, e2, _, hcell2⟩ := H'.out.at_ (by omega)
      subst e1
      subst e2
      obtain ⟨f, hf⟩ : ∃ f, f = fs.getD i nof := ⟨_, rfl⟩
      obtain ⟨g, hg⟩ : ∃ g, g = gs.getD i nof := ⟨_, rfl⟩
      have gx := hcell1 i hlt
      have gy := hcell2 i hlt
      rw [← hf] at gx
      rw [← hg] at gy
      unfold Fld.v at gx gy
      have l1 : i < fs.length := by rw [H.out.len]; exact hlt
      have l2 : i < gs.length := by rw [H'.out.len]; exact hlt
      have n1 : s + f.n ≤ 20010 := by have := total_next l1; have := HK.out; rw [HS.out, hf]; omega
      have n2 : t + g.n ≤ 20010 := by have := total_next l2; have := HV.out; rw [HT.out, hg]; omega
      have b1' : f.n ≤ 20010 := by omega
      have b2' : g.n ≤ 20010 := by omega
      have HF := Lib.hid hf
      have HG := Lib.hid hg
      clear hcell1 hcell2 hf hg
      go_wp2_with fail
      go_roundw
      case rel =>
        refine ⟨i + 1, s + f.n, t + g.n, by omega, by go_num, by go_num, by go_num, ?_, ?_, trivial⟩
        · rw [take_more l1, total_append, ← HF.out, HS.out]; simp [total]
        · rw [take_more l2, total_append, ← HG.out, HT.out]; simp [total]
      case measure => simp [intOf]; omega
    · obtain rfl : i = m := by omega
      have e1 : s = kn := by rw [HS.out, HK.out, List.take_of_length_le (by rw [H.out.len]; exact Nat.le_refl _)]
      have e2 : t = vn := by rw [HT.out, HV.out, List.take_of_length_le (by rw [H'.out.len]; exact Nat.le_refl _)]
      subst e1
      subst e2
      have g1 : ¬ (65535 : Int) < (s : Int) := by omega
      have g2 : ¬ (65535 : Int) < (t : Int) := by omega
      go_wp2_with fail
      refine bodyPost_ret (results_tmp3 rfl _ _ _) rfl ?_
      exact ⟨rfl, rfl⟩
end Go.Proofs.YtegohkgmamnkdaaGreat.Msg
/- The message of a map's node: what it is; the parts written, walked. Condition: at most 200 items, 20000 bytes. -/
set_option linter.unusedVariables false
namespace Go.Proofs.YtegohkgmamnkdaaGreat.Msg
open Go.ChangeShapes Go.WideShapes Go.ChangeAt Go.RowKit
open Go.Proofs.YtegohkgmamnkdaaGreat.Dig Go.Proofs.YtegohkgmamnkdaaGreat.Mem Go.Proofs.YtegohkgmamnkdaaGreat.Rb
open Go.Proofs.YtegohkgmamnkdaaGreat.Cnt (encs enc Nums64)

def fidMap : List Nat := [84, 85, 80, 77]
def keysX (fs : List Fld) (m : Nat) : List Nat := offv fs m (vec (cat fs) [])
def valsX (fs gs : List Fld) (m : Nat) : List Nat := vec (cat gs) (keysX fs m)
def leafX (fs gs : List Fld) (m : Nat) : List Nat := offv gs m (valsX fs gs m)
def innX (fs gs : List Fld) (ls : List Nat) (m : Nat) : List Nat := vec (encs 0 ls) (valsX fs gs m)
/-- The object of a map's node: its last two fields, its types, its count, its level. -/
def mapO (fs gs : List Fld) (m : Nat) (x : List Nat) (i j : Nat) (cnt lv : Nat) : List Nat × List Nat :=
  putN 1 10 lv (putN 1 5 1 (putN 1 2 1 (putN 8 9 cnt (putU j x.length (putU i (valsX fs gs m).length (putU 1 (keysX fs m).length (putU 0 (vec (cat fs) []).length (zr 11, x))))))))
def msgO (ma t : Nat) (x : List Nat) (o : List Nat × List Nat) : List Nat := finO ma (o.2.length + padOf 4 o.2.length + 4) fidMap (endO o.1 o.2 x.length t)
/-- The message. -/
def msgMap (fs gs : List Fld) (ls : List Nat) (m lv : Nat) : List Nat :=
  if lv = 0 then msgO 8 10 (leafX fs gs m) (mapO fs gs m (leafX fs gs m) 3 4 m 0)
  else msgO (if sumU ls = 0 then 4 else 8) 11 (innX fs gs ls m) (mapO fs gs m (innX fs gs ls m) 7 8 (sumU ls) lv)

section
variable {w0 w : World} {B N0 r : Nat} {K : List (Nat × Obj)} {xs : List Nat} {s : St}
theorem itemsV {a : Option Addr} {m c n : Nat} {fs : List Fld} (h : Bx w0 w B N0 r K xs s) (hf : Fine N0 s) (hs : s.ne = false) (hfs : Flds w0 a m c fs) (hm : m ≤ 200) (hn : n = total fs) (hnb : n ≤ 20010) (hfit : xs.length + 8 + n < N0 * 2) (L : Nat) (hL : L = (vec (cat fs) xs).length) :
    Calls Tryz.prog 21 #[.pointer (some ⟨B, 0, none⟩), .slice a m c, .int .i64 (n : Int)] w fun e w' => e = .returned (.int .u32 (L : Int)) ∧ Bx w0 w' B N0 0 K (vec (cat fs) xs) { s with ma := mx s.ma 4 } := by
  have hcl : (cat fs).length = n := by rw [hn]; exact cat_length hfs.ok
  have h4 := padOf_lt 4 (xs.length + n) (by omega)
  have := writeItems w0 w B N0 r n m c (padOf 4 (xs.length + n)) L a K fs xs s h hf hs hfs hm hn hnb rfl (by omega) (by rw [hL, vec_length, hcl])
  unfold vec
  rw [hcl]
  exact this
theorem offsV {a : Option Addr} {m c n : Nat} {fs : List Fld} (h : Bx w0 w B N0 (2 * (m - 1) + 4) K (zr (padOf 4 (xs.length + 2 * (m - 1))) ++ xs) s) (hf : Fine N0 s) (hs : s.ne = true) (hma : 4 ≤ s.ma) (hfs : Flds w0 a m c fs) (hm : m ≤ 200) (hm0 : 0 < m) (hn : n = total fs) (hnb : n ≤ 20010) (hfit : xs.length + 8 + 2 * (m - 1) < N0 * 2) (L : Nat) (hL : L = (offv fs m xs).length) :
    Calls Tryz.prog 23 #[.pointer (some ⟨B, 0, none⟩), .slice a m c, .int .i64 (n : Int)] w fun e w' => e = .returned (.int .u32 (L : Int)) ∧ Bx w0 w' B N0 0 K (offv fs m xs) { s with ne := false } := by
  have h4 := padOf_lt 4 (xs.length + 2 * (m - 1)) (by omega)
  have hl : (zr (padOf 4 (xs.length + 2 * (m - 1))) ++ xs).length = padOf 4 (xs.length + 2 * (m - 1)) + xs.length := by rw [List.length_append, zr_length]
  exact writeOffsets w0 w B N0 n m c L a K fs _ s h hf hs hma hfs hm hm0 hn hnb (by rw [hl]; unfold padOf; omega) (by rw [hl]; omega) (by rw [hL, offv_length, hl])
theorem startV {m : Nat} (h : Bx w0 w B N0 r K xs s) (hf : Fine N0 s) (hs : s.ne = false) (hma : 4 ≤ s.ma) (hm : m ≤ 200) (hfit : xs.length + 8 + 2 * (m - 1) < N0 * 2) (M1 : Int) (hM1 : M1 = ((m - 1 : Nat) : Int)) :
    Calls Tryz.prog 69 #[.pointer (some ⟨B, 0, none⟩), .int .i64 2, .int .i64 M1, .int .i64 2] w fun e w' => (∃ v, e = .returned (.int .u32 v)) ∧ Bx w0 w' B N0 (2 * (m - 1) + 4) K (zr (padOf 4 (xs.length + 2 * (m - 1))) ++ xs) { s with ne := true } := by
  subst hM1
  have h4 := padOf_lt 4 (xs.length + 2 * (m - 1)) (by omega)
  exact startVector w0 w B N0 r (m - 1) (2 * (m - 1)) _ K xs s h hf hs (by omega) rfl rfl (by omega) hma
theorem countsV {a : Option Addr} {n c : Nat} {ls : List Nat} (h : Bx w0 w B N0 r K xs s) (hf : Fine N0 s) (hs : s.ne = false) (hl : ls.length = n) (hn : n ≤ 200) (hb : ∀ x ∈ ls, x < 18446744073709551616) (hc : Nums64 w0 a ls) (hfit : xs.length + 8 + 10 * n < N0 * 2) (L : Nat) (hL : L = (vec (encs 0 ls) xs).length) :
    Calls Tryz.prog 24 #[.pointer (some ⟨B, 0, none⟩), .slice a n c] w fun e w' => e = .returned (.int .u32 (L : Int)) ∧ Bx w0 w' B N0 0 K (vec (encs 0 ls) xs) { s with ma := mx s.ma 4 } := by
  have hE := Cnt.encs_length 0 ls
  have h4 := padOf_lt 4 (xs.length + (encs 0 ls).length) (by omega)
  exact writeCounts w0 w B N0 r n c (padOf 4 (xs.length + (encs 0 ls).length)) L (encs 0 ls).length a K ls xs s h hf hs hl hn hb hc rfl rfl (by omega) (by rw [hL, vec_length])
end
theorem keysX_le {w : World} {fs : List Fld} {m : Nat} (h : ∀ f ∈ fs, FldOk w f) : (vec (cat fs) []).length ≤ total fs + 7 ∧ (keysX fs m).length ≤ total fs + 2 * m + 14 ∧ (vec (cat fs) []).length ≤ (keysX fs m).length := by
  have h1 := cat_length h
  have h2 := padOf_lt 4 (([] : List Nat).length + (cat fs).length) (by omega)
  have h3 := padOf_lt 4 ((vec (cat fs) []).length + 2 * (m - 1)) (by omega)
  have h4 : ([] : List Nat).length = 0 := rfl
  have e1 := vec_length (cat fs) []
  have e2 := offv_length fs m (vec (cat fs) [])
  unfold keysX
  omega
theorem valsX_le {w : World} {fs gs : List Fld} {m : Nat} (h : ∀ f ∈ fs, FldOk w f) (h' : ∀ f ∈ gs, FldOk w f) : (valsX fs gs m).length ≤ total fs + total gs + 2 * m + 21 ∧ (keysX fs m).length ≤ (valsX fs gs m).length := by
  have h1 := cat_length h'
  have h2 := padOf_lt 4 ((keysX fs m).length + (cat gs).length) (by omega)
  have h3 := keysX_le (m := m) h
  have e1 := vec_length (cat gs) (keysX fs m)
  unfold valsX
  omega
theorem leafX_le {w : World} {fs gs : List Fld} {m : Nat} (h : ∀ f ∈ fs, FldOk w f) (h' : ∀ f ∈ gs, FldOk w f) : (leafX fs gs m).length ≤ total fs + total gs + 4 * m + 28 ∧ (valsX fs gs m).length ≤ (leafX fs gs m).length := by
  have h2 := padOf_lt 4 ((valsX fs gs m).length + 2 * (m - 1)) (by omega)
  have h3 := valsX_le (m := m) h h'
  have e1 := offv_length gs m (valsX fs gs m)
  unfold leafX
  omega
theorem innX_le {w : World} {fs gs : List Fld} {ls : List Nat} {m : Nat} (h : ∀ f ∈ fs, FldOk w f) (h' : ∀ f ∈ gs, FldOk w f) : (innX fs gs ls m).length ≤ total fs + total gs + 2 * m + 10 * ls.length + 28 ∧ (valsX fs gs m).length ≤ (innX fs gs ls m).length := by
  have h1 := Cnt.encs_length 0 ls
  have h2 := padOf_lt 4 ((valsX fs gs m).length + (encs 0 ls).length) (by omega)
  have h3 := valsX_le (m := m) h h'
  have e1 := vec_length (encs 0 ls) (valsX fs gs m)
  unfold innX
  omega
end Go.Proofs.YtegohkgmamnkdaaGreat.Msg
