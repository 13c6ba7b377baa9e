/- SHA-512: what the specification's walk holds in memory, and plain facts about its rows. No condition. -/
import Derived.Test.YtcbpnbfkjdmfgaaDoorSha5
set_option linter.unusedVariables false
namespace Go.Proofs.YtcbpnbfkjdmfgaaDoor.Sha
open Go.ChangeShapes Go.WideShapes Go.ChangeAt Go.RowKit
open Go.Proofs.YtcbpnbfkjdmfgaaDoor.Dig Go.Proofs.YtcbpnbfkjdmfgaaDoor.Mem Go.Proofs.YtcbpnbfkjdmfgaaDoor.Rb

theorem elem_u8 : Tryd.prog.elem 22 = 5 := by kernel_rfl
theorem size_u8 (w : World) : (sizeOf 5).run Tryd.prog w = .ok 1 w := by kernel_rfl
theorem cut_at (a : Option Addr) (n c lo hi : Nat) (h1 : lo ≤ hi) (h2 : hi ≤ c) :
    ∀ w, (Instr.slice 22 (.slice a n c) (some (.int .i64 (lo : Int))) (some (.int .i64 (hi : Int))) none).run Tryd.prog w = .ok (.slice (cutA a c lo) (hi - lo) (c - lo)) w := fun w =>
  cutA_run (by rw [elem_u8]; exact Tryd.underlying22) (by rw [elem_u8]; exact size_u8 w) a n c .i64 .i64 lo hi h1 h2
theorem rb_same {w w' : World} {g o : Nat} {n c : Nat} {xs : List Nat} (h : RB w (some ⟨g, o, none⟩) n c xs) (e : w'.heap[g]? = w.heap[g]?) : RB w' (some ⟨g, o, none⟩) n c xs :=
  ⟨h.len, h.le, h.top, h.byte, fun hn => by
    obtain ⟨b, o', ea, hb⟩ := h.at_ hn
    injection ea with e1
    injection e1 with e2 e3
    subst e2 e3
    exact ⟨g, o, rfl, fun i hi => by rw [← hb i hi]; simp only [World.cell?, e]⟩⟩

/-- The blocks that stand while the rounds go: the state, the numbers, the message; the words, the round's state. -/
structure Blks (w0 w : World) (gq g : Nat) (cur : Array Value) (H W V : List Int) : Prop where
  h : Rows2 w0 w 50 52 (IArr H) (IArr KK)
  q : w.heap[gq]? = some (.cells cur 5 (0, 0))
  wd : w.heap[g]? = some (.cells (IArr W) 52 (0, 0))
  vd : w.heap[g + 1]? = some (.cells (IArr V) 50 (0, 0))
  g1 : w0.heap.size + 1 < gq
  g2 : gq < g
theorem Blks.drew {w0 w : World} {gq g : Nat} {cur : Array Value} {H W V : List Int} (h : Blks w0 w gq g cur H W V) (m : Nat) : Blks w0 (w.drewN m) gq g cur H W V :=
  ⟨rows2_drewN h.h m, h.q, h.wd, h.vd, h.g1, h.g2⟩
theorem setRow_size (w : World) (g : Nat) (A : Array Value) : (w.setRow g A).heap.size = w.heap.size := by simp
theorem Rows2.setOther {w0 w : World} {t u : TypeId} {A B : Array Value} (h : Rows2 w0 w t u A B) (g : Nat) (C : Array Value) (hg : w0.heap.size + 1 < g) : Rows2 w0 (w.setRow g C) t u A B :=
  ⟨(setRow_other w _ _ _ (by omega)).trans h.a0, (setRow_other w _ _ _ (by omega)).trans h.a1, below_setRow h.bel (by omega) _, by have := h.lt; simpa using this⟩
theorem Blks.setV {w0 w : World} {gq g : Nat} {cur : Array Value} {H W V : List Int} (h : Blks w0 w gq g cur H W V) (V' : List Int) : Blks w0 (w.setRow (g + 1) (IArr V')) gq g cur H W V' := by
  have h1 := h.g1
  have h2 := h.g2
  exact ⟨Rows2.setOther h.h _ _ (by omega), (setRow_other w _ _ _ (by omega)).trans h.q, (setRow_other w _ _ _ (by omega)).trans h.wd, setRow_heap w _ _ _ _ _ h.vd, h1, h2⟩
theorem rows2_set0 {w0 w : World} {t u : TypeId} {A B : Array Value} (h : Rows2 w0 w t u A B) (j : Nat) (v : Value) : Rows2 w0 (w.setCell ⟨w0.heap.size, j, none⟩ v) t u (A.setIfInBounds j v) B := by
  refine ⟨?_, ?_, h.bel.setCell (by simp) _, by have := h.lt; simpa [World.setCell] using this⟩
  · simp [World.setCell, Array.getElem?_modify, h.a0]
  · have := h.a1
    simpa [World.setCell, Array.getElem?_modify] using this
theorem setCell_other {w : World} {g b j : Nat} {v : Value} (h : g ≠ b) : (w.setCell ⟨g, j, none⟩ v).heap[b]? = w.heap[b]? := by
  simp [World.setCell, Array.getElem?_modify, h]
theorem Blks.setH {w0 w : World} {gq g : Nat} {cur : Array Value} {H W V : List Int} (h : Blks w0 w gq g cur H W V) (j : Nat) (x : Int) : Blks w0 (w.setCell ⟨w0.heap.size, j, none⟩ (.int .u64 x)) gq g cur (H.set j x) W V := by
  have h1 := h.g1
  have h2 := h.g2
  refine ⟨?_, (setCell_other (by omega)).trans h.q, (setCell_other (by omega)).trans h.wd, (setCell_other (by omega)).trans h.vd, h1, h2⟩
  have := rows2_set0 h.h j (.int .u64 x)
  rwa [IArr_set] at this

section
variable {P : Program} {ops : Array Oper} {rest : List Oper} {o : Oper} {a : Act} {Q : Exit → Act → World → Prop} {w w0 : World} {gq g : Nat} {cur : Array Value} {H W V : List Int}
theorem store_V (T : Hid (Blks w0 w gq g cur H W V)) (hgd : o.guard = none) (ty : TypeId) (x y : Operand) (ho : o.op = .store ty x y) (V' : List Int) (hx : a.eval x = .pointer (some ⟨g + 1, 0, none⟩)) (cells : Array Value) (hy : a.eval y = .agg cells) (hc : cells = IArr V')
    (hi : (P.info? ty).map (·.size) = some (IArr V').size) (hold : V.length = V'.length)
    (h : ∀ w', Hid (Blks w0 w' gq g cur H W V') → wpList P ops Q rest (a.put o.dst undef) w') : wpList P ops Q (o :: rest) a w := by
  subst hc
  exact wpList_store_row hgd ty x y ho (g + 1) (IArr V') hx hy 50 (IArr V) T.out.vd hi (by rw [IArr_size, IArr_size, hold]) (IArr_one _) (h _ (Lib.hid (T.out.setV V')))
end

section
variable {P : Program} {ops : Array Oper} {rest : List Oper} {o : Oper} {a : Act} {Q : Exit → Act → World → Prop} {w : World} {ob : Obj} {A : Array Value} {t : TypeId}
theorem store_new2 (hgd : o.guard = none) (ty : TypeId) (x y : Operand) (ho : o.op = .store ty x y) (cells : Array Value) (hx : a.eval x = .pointer (some ⟨w.heap.size + 1, 0, none⟩)) (hy : a.eval y = .agg cells)
    (hi : (P.info? ty).map (·.size) = some cells.size) (hold : A.size = cells.size) (h1 : cells.all (·.oneCell') = true)
    (h : wpList P ops Q rest (a.put o.dst undef) ((w.alloc ob).alloc (.cells cells t))) : wpList P ops Q (o :: rest) a ((w.alloc ob).alloc (.cells A t)) :=
  store_new hgd ty x y ho cells (by rw [hx]; simp) hy hi hold h1 h
end
/-- A region that only reads and draws, in a class of worlds of the caller's choosing. -/
theorem region_quiet_in {P : Program} {C : World → Prop} {id : Nat} {Q : Exit → Act → World → Prop} {a : Act} {w : World} {l : List Oper} (hm : P.follows .mixedOrders = true) (hB : Region.lexB .any l.toArray = true)
    (hC : C { w with drawn := w.drawn + 1 }) (h : wpQuiet P l.toArray C (fun a' => ∀ w', C w' → Q .normal a' w') l a) : (Code.region id l.toArray true).wp P Q a w :=
  wp_region_quiet (C := C) hm hB hC (by simpa using h)
/-- A call that only draws, behind regions that have drawn. -/
theorem drawn_call {P : Program} {f : FuncId} {args : Array Value} {w : World} {k n : Nat} {v : Value} (h : ∀ W : World, Calls P f args W fun e w' => e = .returned v ∧ ∃ m, w' = W.drewN m) :
    Calls P f args (w.drewN (k + n)) fun e w'' => e = .returned v ∧ ∃ m, w'' = w.drewN (k + m) := by
  refine (h _).mono ?_
  rintro e w' ⟨he, m, rfl⟩
  exact ⟨he, n + m, by rw [World.drewN_drewN, Nat.add_assoc]⟩
/-- One word added to another, row by row. -/
theorem row_at (Z s : List Int) (i : Nat) (hi : i < s.length) (hz : Z.length = s.length) : (Z.take i ++ s.drop i).getD i 0 = s.getD i 0 := by
  rw [List.getD_eq_getElem?_getD, List.getD_eq_getElem?_getD, List.getElem?_append_right (by rw [List.length_take]; omega), List.length_take, List.getElem?_drop]
  congr 2
  omega
theorem row_set (Z s : List Int) (i : Nat) (hi : i < s.length) (hz : Z.length = s.length) : (Z.take i ++ s.drop i).set i (Z.getD i 0) = Z.take (i + 1) ++ s.drop (i + 1) := by
  have e : (Z.take i).length = i := by rw [List.length_take]; omega
  rw [List.set_append_right _ _ (by omega), e, Nat.sub_self, List.drop_eq_getElem_cons hi, List.set_cons_zero, List.take_succ_eq_append_getElem (by omega), List.append_assoc, List.getD_eq_getElem?_getD, List.getElem?_eq_getElem (by omega)]
  rfl
theorem row_len (Z s : List Int) (i : Nat) (hz : Z.length = s.length) (hi : i ≤ s.length) : (Z.take i ++ s.drop i).length = s.length := by
  rw [List.length_append, List.length_take, List.length_drop]; omega
theorem S8.len (s : S8) : s.list.length = 8 := rfl
theorem S8.len2 (s t : S8) : s.list.length = t.list.length := rfl
theorem sum8_at (s t : S8) : ∀ i, i < 8 → (sum8 s t).list.getD i 0 = plus (s.list.getD i 0) (t.list.getD i 0)
  | 0, _ => rfl | 1, _ => rfl | 2, _ => rfl | 3, _ => rfl | 4, _ => rfl | 5, _ => rfl | 6, _ => rfl | 7, _ => rfl
  | i + 8, h => by omega
/-- The bytes of a row of words. -/
def outb (L : List Int) (k : Nat) : List Nat := (List.range k).map fun i => (L.getD (i / 8) 0 / 2 ^ (56 - 8 * (i % 8)) % 256).toNat
theorem outb_length (L : List Int) (k : Nat) : (outb L k).length = k := by simp [outb]
theorem outb_next (L : List Int) (k : Nat) : outb L (k + 1) = outb L k ++ [(L.getD (k / 8) 0 / 2 ^ (56 - 8 * (k % 8)) % 256).toNat] := by simp [outb, List.range_succ]
theorem outb_byte (L : List Int) (k : Nat) : ∀ x ∈ outb L k, x < 256 := fun x hx => by
  obtain ⟨j, _, rfl⟩ := List.mem_map.1 hx
  omega
/-- SHA-512. -/
def sha (p : List Nat) : List Nat := outb (comps KK S0 (padOf p) ((padOf p).length / 128)).list 64
theorem sha_length (p : List Nat) : (sha p).length = 64 := outb_length _ _
end Go.Proofs.YtcbpnbfkjdmfgaaDoor.Sha
