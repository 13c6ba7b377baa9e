/- A builder of messages in memory; numbers placed ahead of what it holds, walked. Condition: room for them. -/
import Derived.Test.YtegohkgmamnkdaaGreatBld1
set_option linter.unusedVariables false
namespace Go.Proofs.YtegohkgmamnkdaaGreat.Msg
open Go.ChangeShapes Go.WideShapes Go.ChangeAt Go.RowKit
open Go.Proofs.YtegohkgmamnkdaaGreat.Dig Go.Proofs.YtegohkgmamnkdaaGreat.Mem Go.Proofs.YtegohkgmamnkdaaGreat.Rb

/-- A builder's fields besides its bytes and its head: the greatest alignment, the vtable, the object's end, the vtables, nested, finished, the shared strings. -/
structure St where
  ma : Nat
  vt : Value
  oe : Nat
  vts : Value
  ne : Bool
  fi : Bool
  mp : Value
def St.cells (s : St) (g N C H : Nat) : Array Value :=
  #[.slice (some ⟨g, 0, none⟩) N C, .int .i64 (s.ma : Int), s.vt, .int .u32 (s.oe : Int), s.vts, .int .u32 (H : Int), .bool s.ne, .bool s.fi, s.mp]
/-- The builder lies in block B, its bytes in block g: H free ones (Z), then what is written (xs). -/
structure BdZ (w : World) (B g N C H : Nat) (Z xs : List Nat) (s : St) : Prop where
  row : w.heap[B]? = some (.cells (s.cells g N C H) 95 (0, 0))
  buf : Blk w g C (Z ++ xs)
  hZ : Z.length = H
  hN : N = H + xs.length
  hC : N ≤ C
  hne : B ≠ g
  byte : ∀ x ∈ xs, x < 256
  zb : ∀ x ∈ Z, x < 256
  top : N ≤ 10000000
  cm : C ≤ maxLen
def Bd (w : World) (B g N C H : Nat) (xs : List Nat) (s : St) : Prop := ∃ Z, BdZ w B g N C H Z xs s

section
variable {w w' : World} {B g N C H : Nat} {Z xs : List Nat} {s : St}
theorem BdZ.lt (h : BdZ w B g N C H Z xs s) : B < w.heap.size := by
  rcases Nat.lt_or_ge B w.heap.size with h' | h'
  · exact h'
  · have := h.row; rw [Array.getElem?_eq_none h'] at this; cases this
theorem BdZ.cell (h : BdZ w B g N C H Z xs s) (i : Nat) : w.cell? ⟨B, i, none⟩ = (s.cells g N C H)[i]? := by simp [World.cell?, h.row]
theorem BdZ.free (h : BdZ w B g N C H Z xs s) (i : Nat) : w.frozen? ⟨B, i, none⟩ = false := by simp [World.frozen?, h.row]
theorem BdZ.later {S : List Nat} (h : BdZ w B g N C H Z xs s) (hb : Wr S w w') (h1 : B ∉ S) (h2 : g ∉ S) : BdZ w' B g N C H Z xs s :=
  ⟨(hb.block B h.lt h1).trans h.row, h.buf.later hb h2, h.hZ, h.hN, h.hC, h.hne, h.byte, h.zb, h.top, h.cm⟩
theorem BdZ.drewN (h : BdZ w B g N C H Z xs s) (m : Nat) : BdZ (w.drewN m) B g N C H Z xs s := h.later (S := []) ((Wr.refl _ _).drewN m) (by simp) (by simp)
theorem Blk.other {w : World} {b i g M : Nat} {v : Value} {xs : List Nat} (h : Blk w g M xs) (hne : b ≠ g) : Blk (w.setCell ⟨b, i, none⟩ v) g M xs :=
  h.later (Wr.setCell (S := [b]) w v (by simp)) (by simpa using fun e => hne e.symm)
theorem BdZ.set (h : BdZ w B g N C H Z xs s) (i : Nat) (v : Value) (g' N' C' H' : Nat) (s' : St) (e : (s.cells g N C H).setIfInBounds i v = s'.cells g' N' C' H') :
    (w.setCell ⟨B, i, none⟩ v).heap[B]? = some (.cells (s'.cells g' N' C' H') 95 (0, 0)) ∧ Blk (w.setCell ⟨B, i, none⟩ v) g C (Z ++ xs) := by
  refine ⟨?_, h.buf.other h.hne⟩
  rw [← e]; simp [World.setCell, Array.getElem?_modify, h.row]
end

theorem setCell_heap {w : World} {g o : Nat} {A : Array Value} {t : TypeId} {fr : Nat × Nat} {v : Value} (h : w.heap[g]? = some (.cells A t fr)) : (w.setCell ⟨g, o, none⟩ v).heap[g]? = some (.cells (A.setIfInBounds o v) t fr) := by
  simp [World.setCell, Array.getElem?_modify, h]
theorem take_split (Z : List Nat) (H k : Nat) (h : Z.length = H + k) : ∃ Z1 Z2, Z = Z1 ++ Z2 ∧ Z1.length = H ∧ Z2.length = k :=
  ⟨Z.take H, Z.drop H, (List.take_append_drop _ _).symm, by rw [List.length_take]; omega, by rw [List.length_drop]; omega⟩
theorem put_at (Z1 Z2 R ys : List Nat) (H : Nat) (h1 : Z1.length = H) (h2 : Z2.length = ys.length) : put (Z1 ++ (Z2 ++ R)) H ys = Z1 ++ (ys ++ R) := by
  subst h1
  unfold put
  rw [List.take_left, List.drop_append, List.drop_of_length_le (by omega), List.nil_append, Nat.add_sub_cancel_left, ← h2, List.drop_left]
theorem el26 : Tryz.prog.elem 26 = 5 := by kernel_rfl
theorem u8size (w : World) : (sizeOf 5).run Tryz.prog w = .ok 1 w := by kernel_rfl
theorem cutLo {k : IntKind} (g N C lo : Nat) (h : lo ≤ N) (h2 : N ≤ C) (h3 : lo < C) : ∀ w, (Instr.slice 26 (.slice (some ⟨g, 0, none⟩) N C) (some (.int k (lo : Int))) none none).run Tryz.prog w = .ok (.slice (some ⟨g, lo, none⟩) (N - lo) (C - lo)) w := fun w => by
  have he : Tryz.prog.underlying 26 = some (.slice (Tryz.prog.elem 26)) := by rw [el26]; exact Tryz.underlying26
  have hs : (sizeOf (Tryz.prog.elem 26)).run Tryz.prog w = .ok 1 w := by rw [el26]; exact u8size w
  rw [run_slice_l w 26 (some ⟨g, 0, none⟩) N C he k (lo : Int) (by omega) (by omega), hs]
  simp only [Result.andThen, sliced, Int.toNat_natCast]
  rw [if_neg (by omega)]
  unfold Addr.add
  by_cases h0 : lo = 0
  · subst h0; simp
  · simp [h0]

/-- What a place leaves. -/
theorem placed {w W2 w' : World} {B g N C H0 H m : Nat} {Z xs ys : List Nat} {s : St} (h : BdZ w B g N C H0 Z xs s) (hH : H0 = H + ys.length) (hy : ∀ y ∈ ys, y < 256)
    (r : W2.heap[B]? = some (.cells (s.cells g N C H) 95 (0, 0))) (h2 : Wr [B] w W2) (k : Blk w' g C (put (Z ++ xs) H ys)) (hw : Wr [g] (W2.drewN m) w') :
    Bd w' B g N C H (ys ++ xs) s ∧ Wr [B, g] w w' := by
  obtain ⟨Z1, Z2, rfl, l1, l2⟩ := take_split Z H ys.length (by rw [h.hZ, hH])
  have hB : B < W2.heap.size := Nat.lt_of_lt_of_le h.lt h2.size
  refine ⟨⟨Z1, ?_, ?_, l1, ?_, h.hC, h.hne, ?_, fun x hx => h.zb x (List.mem_append_left _ hx), h.top, h.cm⟩, ?_⟩
  · exact (hw.block B hB (by simpa using h.hne)).trans r
  · rw [List.append_assoc, put_at _ _ _ _ _ l1 l2] at k
    exact k
  · rw [h.hN, hH, List.length_append]; omega
  · intro x hx
    rcases List.mem_append.1 hx with hx | hx
    · exact hy x hx
    · exact h.byte x hx
  · exact ((h2.drewN m).more (by simp)).trans (hw.more (by simp))

theorem writeByte (w : World) (g M o n c v : Nat) (cur : List Nat) (hr : Blk w g M cur) (ho : o + 1 ≤ cur.length) (hn : 1 ≤ n) (hv : v < 256) :
    Calls Tryz.prog 104 #[.slice (some ⟨g, o, none⟩) n c, .int .u8 (v : Int)] w fun e w' => e = .returned (.tuple #[]) ∧ Blk w' g M (put cur o (le 1 v)) ∧ Wr [g] w w' := by
  have K := Lib.hid (writeU8 w g M o n c v cur hr (by omega) hn hv)
  clear hr ho hn hv
  go_enter Tryz.func104, Tryz.ntmps104
  go_wp2_with (go_at_call 130; (with_reducible refine K.out.mono ?_); rintro e w1 ⟨rfl, h1, h2⟩)
  go_end0
  exact ⟨rfl, h1, h2⟩

theorem writeVO (w : World) (g M o n c v : Nat) (cur : List Nat) (hr : Blk w g M cur) (ho : o + 2 ≤ cur.length) (hn : 2 ≤ n) (hv : v < 65536) :
    Calls Tryz.prog 181 #[.slice (some ⟨g, o, none⟩) n c, .int .u16 (v : Int)] w fun e w' => e = .returned (.tuple #[]) ∧ Blk w' g M (put cur o (le 2 v)) ∧ Wr [g] w w' := by
  have K := Lib.hid (writeU16 w g M o n c v cur hr ho hn hv)
  clear hr ho hn hv
  go_enter Tryz.func181, Tryz.ntmps181
  go_wp2_with (go_at_call 126; (with_reducible refine K.out.mono ?_); rintro e w1 ⟨rfl, h1, h2⟩)
  go_end0
  exact ⟨rfl, h1, h2⟩

theorem writeUO (w : World) (g M o n c v : Nat) (cur : List Nat) (hr : Blk w g M cur) (ho : o + 4 ≤ cur.length) (hn : 4 ≤ n) (hv : v < 4294967296) :
    Calls Tryz.prog 127 #[.slice (some ⟨g, o, none⟩) n c, .int .u32 (v : Int)] w fun e w' => e = .returned (.tuple #[]) ∧ Blk w' g M (put cur o (le 4 v)) ∧ Wr [g] w w' := by
  have K := Lib.hid (writeU32 w g M o n c v cur hr ho hn hv)
  clear hr ho hn hv
  go_enter Tryz.func127, Tryz.ntmps127
  go_wp2_with (go_at_call 160; (with_reducible refine K.out.mono ?_); rintro e w1 ⟨rfl, h1, h2⟩)
  go_end0
  exact ⟨rfl, h1, h2⟩

theorem writeSO (w : World) (g M o n c v : Nat) (cur : List Nat) (hr : Blk w g M cur) (ho : o + 4 ≤ cur.length) (hn : 4 ≤ n) (hv : v < 2147483648) :
    Calls Tryz.prog 135 #[.slice (some ⟨g, o, none⟩) n c, .int .i32 (v : Int)] w fun e w' => e = .returned (.tuple #[]) ∧ Blk w' g M (put cur o (le 4 v)) ∧ Wr [g] w w' := by
  have K := Lib.hid (writeI32 w g M o n c v cur hr ho hn hv)
  clear hr ho hn hv
  go_enter Tryz.func135, Tryz.ntmps135
  go_wp2_with (go_at_call 166; (with_reducible refine K.out.mono ?_); rintro e w1 ⟨rfl, h1, h2⟩)
  go_end0
  exact ⟨rfl, h1, h2⟩

set_option maxRecDepth 100000 in
set_option maxHeartbeats 1000000 in
theorem placeByte (w : World) (B g N C H0 H v : Nat) (xs : List Nat) (s : St) (h : Bd w B g N C H0 xs s) (hH : H0 = H + 1) (hv : v < 256) :
    Calls Tryz.prog 78 #[.pointer (some ⟨B, 0, none⟩), .int .u8 (v : Int)] w fun e w' => e = .returned (.tuple #[]) ∧ Bd w' B g N C H (le 1 v ++ xs) s ∧ Wr [B, g] w w' := by
  obtain ⟨Z, h⟩ := h
  have c5 : w.cell? ⟨B, 5, none⟩ = some (.int .u32 (H0 : Int)) := h.cell 5
  have c0 : w.cell? ⟨B, 0, none⟩ = some (.slice (some ⟨g, 0, none⟩) N C) := h.cell 0
  have f5 := h.free 5
  have s1 : (H0 : Int) - 1 = (H : Int) := by omega
  have b1 : H0 ≤ 10000000 := by have := h.hN; have := h.hC; have := h.top; omega
  have b2 : 1 ≤ H0 := by omega
  have C1 := cutLo (k := .u32) g N C H (by have := h.hN; omega) (by have := h.hC; omega) (by have := h.hN; have := h.hC; omega)
  obtain ⟨r1, r2⟩ := h.set 5 (.int .u32 (H : Int)) g N C H s rfl
  have R1 := Lib.hid r1
  have R2 := Lib.hid r2
  have W0 := Lib.hid (Wr.setCell (S := [B]) (g := B) (o := 5) w (.int .u32 (H : Int)) (by simp))
  have K := Lib.hid (fun w1 hr => writeByte w1 g C H (N - H) (C - H) v (Z ++ xs) hr (by have := h.hZ; rw [List.length_append]; omega) (by have := h.hN; omega) hv)
  have HH := Lib.hid h
  have HE := Lib.hid hH
  clear h hH r1 r2 hv
  go_enter Tryz.func78, Tryz.ntmps78
  go_wp2_with fail
  generalize w.setCell ⟨B, 5, none⟩ (.int .u32 (H : Int)) = W2 at *
  have d5 : W2.cell? ⟨B, 5, none⟩ = some (.int .u32 (H : Int)) := by simp only [World.cell?, R1.out]; rfl
  have d0 : W2.cell? ⟨B, 0, none⟩ = some (.slice (some ⟨g, 0, none⟩) N C) := by simp only [World.cell?, R1.out]; rfl
  refine region_quiet_tail 10 (C := fun w' => ∃ m, w' = W2.drewN m) (by kernel_rfl) (by kernel_rfl) ⟨1, rfl⟩ ?_
  simp only [List.take_succ_cons, List.take_zero, List.drop_succ_cons, List.drop_zero]
  iterate 10 go_big_quiet_step (fail)
  refine wpQuiet_nil ?_
  rintro _ ⟨m, rfl⟩
  go_wp2_with (go_at_call 104; (with_reducible refine (K.out _ (R2.out.later (S := []) ((Wr.refl _ _).drewN m) (by simp))).mono ?_); rintro e w3 ⟨rfl, h1, h2⟩; have H1 := Lib.hid h1; have H2 := Lib.hid h2; clear h1 h2)
  go_end0
  have := placed (m := m) HH.out (by rw [le_length]; exact HE.out) (le_byte _ _) R1.out W0.out H1.out H2.out
  exact ⟨rfl, this⟩

set_option maxRecDepth 100000 in
set_option maxHeartbeats 1000000 in
theorem placeU16 (w : World) (B g N C H0 H v : Nat) (xs : List Nat) (s : St) (h : Bd w B g N C H0 xs s) (hH : H0 = H + 2) (hv : v < 65536) :
    Calls Tryz.prog 96 #[.pointer (some ⟨B, 0, none⟩), .int .u16 (v : Int)] w fun e w' => e = .returned (.tuple #[]) ∧ Bd w' B g N C H (le 2 v ++ xs) s ∧ Wr [B, g] w w' := by
  obtain ⟨Z, h⟩ := h
  have c5 : w.cell? ⟨B, 5, none⟩ = some (.int .u32 (H0 : Int)) := h.cell 5
  have c0 : w.cell? ⟨B, 0, none⟩ = some (.slice (some ⟨g, 0, none⟩) N C) := h.cell 0
  have f5 := h.free 5
  have s1 : (H0 : Int) - 2 = (H : Int) := by omega
  have b1 : H0 ≤ 10000000 := by have := h.hN; have := h.hC; have := h.top; omega
  have b2 : 2 ≤ H0 := by omega
  have C1 := cutLo (k := .u32) g N C H (by have := h.hN; omega) (by have := h.hC; omega) (by have := h.hN; have := h.hC; omega)
  obtain ⟨r1, r2⟩ := h.set 5 (.int .u32 (H : Int)) g N C H s rfl
  have R1 := Lib.hid r1
  have R2 := Lib.hid r2
  have W0 := Lib.hid (Wr.setCell (S := [B]) (g := B) (o := 5) w (.int .u32 (H : Int)) (by simp))
  have K := Lib.hid (fun w1 hr => writeU16 w1 g C H (N - H) (C - H) v (Z ++ xs) hr (by have := h.hZ; rw [List.length_append]; omega) (by have := h.hN; omega) hv)
  have HH := Lib.hid h
  have HE := Lib.hid hH
  clear h hH r1 r2 hv
  go_enter Tryz.func96, Tryz.ntmps96
  go_wp2_with fail
  generalize w.setCell ⟨B, 5, none⟩ (.int .u32 (H : Int)) = W2 at *
  have d5 : W2.cell? ⟨B, 5, none⟩ = some (.int .u32 (H : Int)) := by simp only [World.cell?, R1.out]; rfl
  have d0 : W2.cell? ⟨B, 0, none⟩ = some (.slice (some ⟨g, 0, none⟩) N C) := by simp only [World.cell?, R1.out]; rfl
  refine region_quiet_tail 10 (C := fun w' => ∃ m, w' = W2.drewN m) (by kernel_rfl) (by kernel_rfl) ⟨1, rfl⟩ ?_
  simp only [List.take_succ_cons, List.take_zero, List.drop_succ_cons, List.drop_zero]
  iterate 10 go_big_quiet_step (fail)
  refine wpQuiet_nil ?_
  rintro _ ⟨m, rfl⟩
  go_wp2_with (go_at_call 126; (with_reducible refine (K.out _ (R2.out.later (S := []) ((Wr.refl _ _).drewN m) (by simp))).mono ?_); rintro e w3 ⟨rfl, h1, h2⟩; have H1 := Lib.hid h1; have H2 := Lib.hid h2; clear h1 h2)
  go_end0
  have := placed (m := m) HH.out (by rw [le_length]; exact HE.out) (le_byte _ _) R1.out W0.out H1.out H2.out
  exact ⟨rfl, this⟩

set_option maxRecDepth 100000 in
set_option maxHeartbeats 1000000 in
theorem placeVO (w : World) (B g N C H0 H v : Nat) (xs : List Nat) (s : St) (h : Bd w B g N C H0 xs s) (hH : H0 = H + 2) (hv : v < 65536) :
    Calls Tryz.prog 165 #[.pointer (some ⟨B, 0, none⟩), .int .u16 (v : Int)] w fun e w' => e = .returned (.tuple #[]) ∧ Bd w' B g N C H (le 2 v ++ xs) s ∧ Wr [B, g] w w' := by
  obtain ⟨Z, h⟩ := h
  have c5 : w.cell? ⟨B, 5, none⟩ = some (.int .u32 (H0 : Int)) := h.cell 5
  have c0 : w.cell? ⟨B, 0, none⟩ = some (.slice (some ⟨g, 0, none⟩) N C) := h.cell 0
  have f5 := h.free 5
  have s1 : (H0 : Int) - 2 = (H : Int) := by omega
  have b1 : H0 ≤ 10000000 := by have := h.hN; have := h.hC; have := h.top; omega
  have b2 : 2 ≤ H0 := by omega
  have C1 := cutLo (k := .u32) g N C H (by have := h.hN; omega) (by have := h.hC; omega) (by have := h.hN; have := h.hC; omega)
  obtain ⟨r1, r2⟩ := h.set 5 (.int .u32 (H : Int)) g N C H s rfl
  have R1 := Lib.hid r1
  have R2 := Lib.hid r2
  have W0 := Lib.hid (Wr.setCell (S := [B]) (g := B) (o := 5) w (.int .u32 (H : Int)) (by simp))
  have K := Lib.hid (fun w1 hr => writeVO w1 g C H (N - H) (C - H) v (Z ++ xs) hr (by have := h.hZ; rw [List.length_append]; omega) (by have := h.hN; omega) hv)
  have HH := Lib.hid h
  have HE := Lib.hid hH
  clear h hH r1 r2 hv
  go_enter Tryz.func165, Tryz.ntmps165
  go_wp2_with fail
  generalize w.setCell ⟨B, 5, none⟩ (.int .u32 (H : Int)) = W2 at *
  have d5 : W2.cell? ⟨B, 5, none⟩ = some (.int .u32 (H : Int)) := by simp only [World.cell?, R1.out]; rfl
  have d0 : W2.cell? ⟨B, 0, none⟩ = some (.slice (some ⟨g, 0, none⟩) N C) := by simp only [World.cell?, R1.out]; rfl
  refine region_quiet_tail 10 (C := fun w' => ∃ m, w' = W2.drewN m) (by kernel_rfl) (by kernel_rfl) ⟨1, rfl⟩ ?_
  simp only [List.take_succ_cons, List.take_zero, List.drop_succ_cons, List.drop_zero]
  iterate 10 go_big_quiet_step (fail)
  refine wpQuiet_nil ?_
  rintro _ ⟨m, rfl⟩
  go_wp2_with (go_at_call 181; (with_reducible refine (K.out _ (R2.out.later (S := []) ((Wr.refl _ _).drewN m) (by simp))).mono ?_); rintro e w3 ⟨rfl, h1, h2⟩; have H1 := Lib.hid h1; have H2 := Lib.hid h2; clear h1 h2)
  go_end0
  have := placed (m := m) HH.out (by rw [le_length]; exact HE.out) (le_byte _ _) R1.out W0.out H1.out H2.out
  exact ⟨rfl, this⟩

set_option maxRecDepth 100000 in
set_option maxHeartbeats 1000000 in
theorem placeUO (w : World) (B g N C H0 H v : Nat) (xs : List Nat) (s : St) (h : Bd w B g N C H0 xs s) (hH : H0 = H + 4) (hv : v < 4294967296) :
    Calls Tryz.prog 98 #[.pointer (some ⟨B, 0, none⟩), .int .u32 (v : Int)] w fun e w' => e = .returned (.tuple #[]) ∧ Bd w' B g N C H (le 4 v ++ xs) s ∧ Wr [B, g] w w' := by
  obtain ⟨Z, h⟩ := h
  have c5 : w.cell? ⟨B, 5, none⟩ = some (.int .u32 (H0 : Int)) := h.cell 5
  have c0 : w.cell? ⟨B, 0, none⟩ = some (.slice (some ⟨g, 0, none⟩) N C) := h.cell 0
  have f5 := h.free 5
  have s1 : (H0 : Int) - 4 = (H : Int) := by omega
  have b1 : H0 ≤ 10000000 := by have := h.hN; have := h.hC; have := h.top; omega
  have b2 : 4 ≤ H0 := by omega
  have C1 := cutLo (k := .u32) g N C H (by have := h.hN; omega) (by have := h.hC; omega) (by have := h.hN; have := h.hC; omega)
  obtain ⟨r1, r2⟩ := h.set 5 (.int .u32 (H : Int)) g N C H s rfl
  have R1 := Lib.hid r1
  have R2 := Lib.hid r2
  have W0 := Lib.hid (Wr.setCell (S := [B]) (g := B) (o := 5) w (.int .u32 (H : Int)) (by simp))
  have K := Lib.hid (fun w1 hr => writeUO w1 g C H (N - H) (C - H) v (Z ++ xs) hr (by have := h.hZ; rw [List.length_append]; omega) (by have := h.hN; omega) hv)
  have HH := Lib.hid h
  have HE := Lib.hid hH
  clear h hH r1 r2 hv
  go_enter Tryz.func98, Tryz.ntmps98
  go_wp2_with fail
  generalize w.setCell ⟨B, 5, none⟩ (.int .u32 (H : Int)) = W2 at *
  have d5 : W2.cell? ⟨B, 5, none⟩ = some (.int .u32 (H : Int)) := by simp only [World.cell?, R1.out]; rfl
  have d0 : W2.cell? ⟨B, 0, none⟩ = some (.slice (some ⟨g, 0, none⟩) N C) := by simp only [World.cell?, R1.out]; rfl
  refine region_quiet_tail 10 (C := fun w' => ∃ m, w' = W2.drewN m) (by kernel_rfl) (by kernel_rfl) ⟨1, rfl⟩ ?_
  simp only [List.take_succ_cons, List.take_zero, List.drop_succ_cons, List.drop_zero]
  iterate 10 go_big_quiet_step (fail)
  refine wpQuiet_nil ?_
  rintro _ ⟨m, rfl⟩
  go_wp2_with (go_at_call 127; (with_reducible refine (K.out _ (R2.out.later (S := []) ((Wr.refl _ _).drewN m) (by simp))).mono ?_); rintro e w3 ⟨rfl, h1, h2⟩; have H1 := Lib.hid h1; have H2 := Lib.hid h2; clear h1 h2)
  go_end0
  have := placed (m := m) HH.out (by rw [le_length]; exact HE.out) (le_byte _ _) R1.out W0.out H1.out H2.out
  exact ⟨rfl, this⟩

set_option maxRecDepth 100000 in
set_option maxHeartbeats 1000000 in
theorem placeSO (w : World) (B g N C H0 H v : Nat) (xs : List Nat) (s : St) (h : Bd w B g N C H0 xs s) (hH : H0 = H + 4) (hv : v < 2147483648) :
    Calls Tryz.prog 163 #[.pointer (some ⟨B, 0, none⟩), .int .i32 (v : Int)] w fun e w' => e = .returned (.tuple #[]) ∧ Bd w' B g N C H (le 4 v ++ xs) s ∧ Wr [B, g] w w' := by
  obtain ⟨Z, h⟩ := h
  have c5 : w.cell? ⟨B, 5, none⟩ = some (.int .u32 (H0 : Int)) := h.cell 5
  have c0 : w.cell? ⟨B, 0, none⟩ = some (.slice (some ⟨g, 0, none⟩) N C) := h.cell 0
  have f5 := h.free 5
  have s1 : (H0 : Int) - 4 = (H : Int) := by omega
  have b1 : H0 ≤ 10000000 := by have := h.hN; have := h.hC; have := h.top; omega
  have b2 : 4 ≤ H0 := by omega
  have C1 := cutLo (k := .u32) g N C H (by have := h.hN; omega) (by have := h.hC; omega) (by have := h.hN; have := h.hC; omega)
  obtain ⟨r1, r2⟩ := h.set 5 (.int .u32 (H : Int)) g N C H s rfl
  have R1 := Lib.hid r1
  have R2 := Lib.hid r2
  have W0 := Lib.hid (Wr.setCell (S := [B]) (g := B) (o := 5) w (.int .u32 (H : Int)) (by simp))
  have K := Lib.hid (fun w1 hr => writeSO w1 g C H (N - H) (C - H) v (Z ++ xs) hr (by have := h.hZ; rw [List.length_append]; omega) (by have := h.hN; omega) hv)
  have HH := Lib.hid h
  have HE := Lib.hid hH
  clear h hH r1 r2 hv
  go_enter Tryz.func163, Tryz.ntmps163
  go_wp2_with fail
  generalize w.setCell ⟨B, 5, none⟩ (.int .u32 (H : Int)) = W2 at *
  have d5 : W2.cell? ⟨B, 5, none⟩ = some (.int .u32 (H : Int)) := by simp only [World.cell?, R1.out]; rfl
  have d0 : W2.cell? ⟨B, 0, none⟩ = some (.slice (some ⟨g, 0, none⟩) N C) := by simp only [World.cell?, R1.out]; rfl
  refine region_quiet_tail 10 (C := fun w' => ∃ m, w' = W2.drewN m) (by kernel_rfl) (by kernel_rfl) ⟨1, rfl⟩ ?_
  simp only [List.take_succ_cons, List.take_zero, List.drop_succ_cons, List.drop_zero]
  iterate 10 go_big_quiet_step (fail)
  refine wpQuiet_nil ?_
  rintro _ ⟨m, rfl⟩
  go_wp2_with (go_at_call 135; (with_reducible refine (K.out _ (R2.out.later (S := []) ((Wr.refl _ _).drewN m) (by simp))).mono ?_); rintro e w3 ⟨rfl, h1, h2⟩; have H1 := Lib.hid h1; have H2 := Lib.hid h2; clear h1 h2)
  go_end0
  have := placed (m := m) HH.out (by rw [le_length]; exact HE.out) (le_byte _ _) R1.out W0.out H1.out H2.out
  exact ⟨rfl, this⟩

set_option maxRecDepth 100000 in
set_option maxHeartbeats 1000000 in
theorem placeU64 (w : World) (B g N C H0 H v : Nat) (xs : List Nat) (s : St) (h : Bd w B g N C H0 xs s) (hH : H0 = H + 8) (hv : v < 18446744073709551616) :
    Calls Tryz.prog 129 #[.pointer (some ⟨B, 0, none⟩), .int .u64 (v : Int)] w fun e w' => e = .returned (.tuple #[]) ∧ Bd w' B g N C H (le 8 v ++ xs) s ∧ Wr [B, g] w w' := by
  obtain ⟨Z, h⟩ := h
  have c5 : w.cell? ⟨B, 5, none⟩ = some (.int .u32 (H0 : Int)) := h.cell 5
  have c0 : w.cell? ⟨B, 0, none⟩ = some (.slice (some ⟨g, 0, none⟩) N C) := h.cell 0
  have f5 := h.free 5
  have s1 : (H0 : Int) - 8 = (H : Int) := by omega
  have b1 : H0 ≤ 10000000 := by have := h.hN; have := h.hC; have := h.top; omega
  have b2 : 8 ≤ H0 := by omega
  have C1 := cutLo (k := .u32) g N C H (by have := h.hN; omega) (by have := h.hC; omega) (by have := h.hN; have := h.hC; omega)
  obtain ⟨r1, r2⟩ := h.set 5 (.int .u32 (H : Int)) g N C H s rfl
  have R1 := Lib.hid r1
  have R2 := Lib.hid r2
  have W0 := Lib.hid (Wr.setCell (S := [B]) (g := B) (o := 5) w (.int .u32 (H : Int)) (by simp))
  have K := Lib.hid (fun w1 hr => writeU64 w1 g C H (N - H) (C - H) v (Z ++ xs) hr (by have := h.hZ; rw [List.length_append]; omega) (by have := h.hN; omega) hv)
  have HH := Lib.hid h
  have HE := Lib.hid hH
  clear h hH r1 r2 hv
  go_enter Tryz.func129, Tryz.ntmps129
  go_wp2_with fail
  generalize w.setCell ⟨B, 5, none⟩ (.int .u32 (H : Int)) = W2 at *
  have d5 : W2.cell? ⟨B, 5, none⟩ = some (.int .u32 (H : Int)) := by simp only [World.cell?, R1.out]; rfl
  have d0 : W2.cell? ⟨B, 0, none⟩ = some (.slice (some ⟨g, 0, none⟩) N C) := by simp only [World.cell?, R1.out]; rfl
  refine region_quiet_tail 10 (C := fun w' => ∃ m, w' = W2.drewN m) (by kernel_rfl) (by kernel_rfl) ⟨1, rfl⟩ ?_
  simp only [List.take_succ_cons, List.take_zero, List.drop_succ_cons, List.drop_zero]
  iterate 10 go_big_quiet_step (fail)
  refine wpQuiet_nil ?_
  rintro _ ⟨m, rfl⟩
  go_wp2_with (go_at_call 162; (with_reducible refine (K.out _ (R2.out.later (S := []) ((Wr.refl _ _).drewN m) (by simp))).mono ?_); rintro e w3 ⟨rfl, h1, h2⟩; have H1 := Lib.hid h1; have H2 := Lib.hid h2; clear h1 h2)
  go_end0
  have := placed (m := m) HH.out (by rw [le_length]; exact HE.out) (le_byte _ _) R1.out W0.out H1.out H2.out
  exact ⟨rfl, this⟩
end Go.Proofs.YtegohkgmamnkdaaGreat.Msg
