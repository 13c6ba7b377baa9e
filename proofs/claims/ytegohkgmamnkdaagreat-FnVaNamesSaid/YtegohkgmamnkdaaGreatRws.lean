/- Words for memory: blocks that a call lays one behind another, as rows of values; what the walk does with such. No condition. -/
import Derived.Test.YtegohkgmamnkdaaGreatRb
import Derived.Laws.CopyOwn
import Derived.Laws.ResultCell
import Derived.Laws.Tables
import Derived.Deep.WholeRow
import Derived.Great.BuildSlice
set_option linter.unusedVariables false
namespace Go.Proofs.YtegohkgmamnkdaaGreat.Mem
open Go.ChangeShapes Go.WideShapes Go.ChangeAt Go.RowKit
open Go.Proofs.YtegohkgmamnkdaaGreat.Rb

/-- From w0's size on: two rows. -/
structure Rows2 (w0 w : World) (t u : TypeId) (A B : Array Value) : Prop where
  a0 : w.heap[w0.heap.size]? = some (.cells A t (0, 0))
  a1 : w.heap[w0.heap.size + 1]? = some (.cells B u (0, 0))
  bel : Below w0.heap.size w0 w
  lt : w0.heap.size + 1 < w.heap.size
theorem rows2_start (w : World) (t u : TypeId) (A B : Array Value) : Rows2 w ((w.alloc (.cells A t)).alloc (.cells B u)) t u A B :=
  ⟨heap_old2 _ _ _, heap_new2 _ _ _, ((Below.refl _ _).alloc (Nat.le_refl _) _).alloc (by simp) _, by simp⟩
theorem Rows2.later {w0 w w' : World} {t u : TypeId} {A B : Array Value} (h : Rows2 w0 w t u A B) (hb : Below w.heap.size w w') : Rows2 w0 w' t u A B := by
  obtain ⟨h1, h2, h3, h4⟩ := h
  exact ⟨(hb.block _ (by omega)).trans h1, (hb.block _ h4).trans h2, h3.trans (hb.mono (by omega)), Nat.lt_of_lt_of_le h4 hb.size⟩
theorem Rows2.set0 {w0 w : World} {t u : TypeId} {A B : Array Value} (h : Rows2 w0 w t u A B) (A' : Array Value) : Rows2 w0 (w.setRow w0.heap.size A') t u A' B :=
  ⟨setRow_heap w _ _ _ t _ h.a0, (setRow_other w _ _ _ (by omega)).trans h.a1, below_setRow h.bel (Nat.le_refl _) _, by have := h.lt; simpa using this⟩
theorem Rows2.set1 {w0 w : World} {t u : TypeId} {A B : Array Value} (h : Rows2 w0 w t u A B) (B' : Array Value) : Rows2 w0 (w.setRow (w0.heap.size + 1) B') t u A B' :=
  ⟨(setRow_other w _ _ _ (by omega)).trans h.a0, setRow_heap w _ _ _ u _ h.a1, below_setRow h.bel (by omega) _, by have := h.lt; simpa using this⟩

section
variable {P : Program} {ops : Array Oper} {rest : List Oper} {o : Oper} {a : Act} {Q : Exit → Act → World → Prop} {w w0 : World} {t u : TypeId} {A B : Array Value}
theorem store_0 (T : Hid (Rows2 w0 w t u A B)) (hgd : o.guard = none) (ty : TypeId) (x y : Operand) (ho : o.op = .store ty x y) (cells : Array Value) (hx : a.eval x = .pointer (some ⟨w0.heap.size, 0, none⟩)) (hy : a.eval y = .agg cells)
    (hi : (P.info? ty).map (·.size) = some cells.size) (hold : A.size = cells.size) (h1 : cells.all (·.oneCell') = true)
    (h : ∀ w', Hid (Rows2 w0 w' t u cells B) → wpList P ops Q rest (a.put o.dst undef) w') : wpList P ops Q (o :: rest) a w :=
  wpList_store_row hgd ty x y ho w0.heap.size cells hx hy t A T.out.a0 hi hold h1 (h _ (Lib.hid (T.out.set0 _)))
theorem store_1 (T : Hid (Rows2 w0 w t u A B)) (hgd : o.guard = none) (ty : TypeId) (x y : Operand) (ho : o.op = .store ty x y) (cells : Array Value) (hx : a.eval x = .pointer (some ⟨w0.heap.size + 1, 0, none⟩)) (hy : a.eval y = .agg cells)
    (hi : (P.info? ty).map (·.size) = some cells.size) (hold : B.size = cells.size) (h1 : cells.all (·.oneCell') = true)
    (h : ∀ w', Hid (Rows2 w0 w' t u A cells) → wpList P ops Q rest (a.put o.dst undef) w') : wpList P ops Q (o :: rest) a w :=
  wpList_store_row hgd ty x y ho (w0.heap.size + 1) cells hx hy u B T.out.a1 hi hold h1 (h _ (Lib.hid (T.out.set1 _)))
/-- A copy into the whole of the second row. -/
theorem copy_1 (T : Hid (Rows2 w0 w t u A B)) (hgd : o.guard = none) (d s : Operand) (dT sT : TypeId) (ho : o.op = .call { callee := .builtin .copy, args := #[d, s], argTypes := #[dT, sT] })
    (elem : TypeId) (hu : P.underlying dT = some (.slice elem)) (hsz : (P.info? elem).map (·.size) = some 1) (n c : Nat) (hd : a.eval d = .slice (some ⟨w0.heap.size + 1, 0, none⟩) n n)
    (sp : Option Addr) (hs : a.eval s = .slice sp n c) (xs : List Nat) (hr : RB w sp n c xs) (hB : B.size = n) (h0 : 0 < n)
    (h : ∀ w', Hid (Rows2 w0 w' t u A (bs xs).toArray) → wpList P ops Q rest (a.put o.dst (goInt n)) w') : wpList P ops Q (o :: rest) a w := by
  have hl := hr.len
  obtain ⟨b, of, rfl, hb⟩ := hr.at_ h0
  have e : ((B.toList.take 0 ++ (bs xs ++ B.toList.drop (0 + (bs xs).length))).toArray : Array Value) = (bs xs).toArray := by
    rw [bs_length, hl, Nat.zero_add, List.drop_of_length_le (by simp [hB])]; simp
  refine wpList_copy_own hgd d s dT sT ho elem hu hsz (w0.heap.size + 1) 0 n n ⟨b, of, none⟩ n c hd hs B u T.out.a1 (bs xs) (by rw [bs_length, hl]; simp) (fun j v hj => ?_) (by rw [bs_length, hl, hB]; omega) (fun v hv => ?_) ?_
  · have hj' : j < xs.length := by
      have := (List.getElem?_eq_some_iff.1 hj).1
      rwa [bs_length] at this
    rw [bs_get hj'] at hj
    have := hb j hj'
    unfold Addr.add
    by_cases h00 : j = 0
    · subst h00; simp only [if_pos]; simpa using this.trans hj
    · simp only [if_neg h00]; exact this.trans hj
  · obtain ⟨x, _, rfl⟩ := List.mem_map.1 hv
    rfl
  · rw [e, bs_length, hl]
    exact h _ (Lib.hid (T.out.set1 _))

theorem store_new (hgd : o.guard = none) (ty : TypeId) (x y : Operand) (ho : o.op = .store ty x y) (cells : Array Value) (hx : a.eval x = .pointer (some ⟨w.heap.size, 0, none⟩)) (hy : a.eval y = .agg cells)
    (hi : (P.info? ty).map (·.size) = some cells.size) (hold : A.size = cells.size) (h1 : cells.all (·.oneCell') = true)
    (h : wpList P ops Q rest (a.put o.dst undef) (w.alloc (.cells cells t))) : wpList P ops Q (o :: rest) a (w.alloc (.cells A t)) :=
  wpList_store_row hgd ty x y ho w.heap.size cells hx hy t A (heap_alloc_new _ _) hi hold h1 (by rw [World.setRow_alloc_new]; exact h)
theorem store_one_1 (T : Hid (Rows2 w0 w t u A B)) (hgd : o.guard = none) (ty : TypeId) (x y : Operand) (ho : o.op = .store ty x y) (v old : Value) (hx : a.eval x = .pointer (some ⟨w0.heap.size + 1, 0, none⟩)) (hy : a.eval y = v)
    (hv : v.oneCell' = true) (hB : B = #[old]) (hi : (P.info? ty).map (·.size) = some 1)
    (h : ∀ w', Hid (Rows2 w0 w' t u A #[v]) → wpList P ops Q rest (a.put o.dst undef) w') : wpList P ops Q (o :: rest) a w := by
  subst hB
  refine wpList_store_one hgd ty x y ho (w0.heap.size + 1) hx (by rw [hy]; exact hv) u old T.out.a1 hi ?_
  rw [hy]
  exact h _ (Lib.hid (T.out.set1 _))

theorem load_row_w (hw : Region.wanted o (yielded ops a.tmps) = true) (ty : TypeId) (x : Operand) (ho : o.op = .load ty x) (g : Nat) (hx : a.eval x = .pointer (some ⟨g, 0, none⟩)) (cs : Array Value) (fr : Nat × Nat) (d : TypeDesc)
    (hg : w.heap[g]? = some (.cells cs t fr)) (hu : P.underlying ty = some d) (hd : (match d with | .struct _ | .array _ _ => true | _ => false) = true) (hi : (P.info? ty).map (·.size) = some cs.size)
    (h : wpList P ops Q rest (a.put o.dst (.agg cs)) w) : wpList P ops Q (o :: rest) a w :=
  wpList_step fun K hK => by
    rw [if_pos hw]
    exact wp_load_row ty x ho g hx t cs fr d hg hu hd hi (hK _ _ h)

/-- Blocks that stand. -/
def Keep (w0 w : World) (T : TypeId) (L : List (Nat × Array Value)) : Prop := Below w0.heap.size w0 w ∧ ∀ p ∈ L, p.1 < w.heap.size ∧ w.heap[p.1]? = some (.cells p.2 T (0, 0))
theorem Keep.later {w' : World} {T : TypeId} {L : List (Nat × Array Value)} (h : Keep w0 w T L) (hb : Below w.heap.size w w') : Keep w0 w' T L :=
  ⟨h.1.trans (hb.mono h.1.size), fun p hp => ⟨Nat.lt_of_lt_of_le (h.2 p hp).1 hb.size, (hb.block _ (h.2 p hp).1).trans (h.2 p hp).2⟩⟩
theorem Keep.push {T : TypeId} {L : List (Nat × Array Value)} (h : Keep w0 w T L) (A : Array Value) : Keep w0 (w.alloc (.cells A T)) T ((w.heap.size, A) :: L) := by
  have h' := h.later (w' := w.alloc (.cells A T)) ((Below.refl _ _).alloc (Nat.le_refl _) _)
  refine ⟨h'.1, fun p hp => ?_⟩
  rcases List.mem_cons.1 hp with rfl | hp
  · exact ⟨by simp, heap_alloc_new _ _⟩
  · exact h'.2 p hp
theorem Keep.bel {T : TypeId} {L : List (Nat × Array Value)} (h : Keep w0 w T L) : Below w0.heap.size w0 w := h.1
theorem Keep.at {T : TypeId} {L : List (Nat × Array Value)} (h : Keep w0 w T L) (b : Nat) (A : Array Value) (hp : (b, A) ∈ L) : w.heap[b]? = some (.cells A T (0, 0)) := (h.2 _ hp).2
theorem Keep.start (w : World) (T : TypeId) : Keep w w T [] := ⟨Below.refl _ _, by simp⟩

/-- From w0's size on: one row. -/
structure Row1 (w0 w : World) (t : TypeId) (A : Array Value) : Prop where
  a0 : w.heap[w0.heap.size]? = some (.cells A t (0, 0))
  bel : Below w0.heap.size w0 w
  lt : w0.heap.size < w.heap.size
theorem row1_start (w : World) (t : TypeId) (A : Array Value) : Row1 w (w.alloc (.cells A t)) t A := ⟨heap_alloc_new _ _, (Below.refl _ _).alloc (Nat.le_refl _) _, by simp⟩
theorem Row1.later {w' : World} (h : Row1 w0 w t A) (hb : Below w.heap.size w w') : Row1 w0 w' t A :=
  ⟨(hb.block _ h.lt).trans h.a0, h.bel.trans (hb.mono (by have := h.lt; omega)), Nat.lt_of_lt_of_le h.lt hb.size⟩
theorem Row1.alloc (h : Row1 w0 w t A) (ob : Obj) : Row1 w0 (w.alloc ob) t A := h.later ((Below.refl _ _).alloc (Nat.le_refl _) _)
theorem store_r1 (T : Hid (Row1 w0 w t A)) (hgd : o.guard = none) (ty : TypeId) (x y : Operand) (ho : o.op = .store ty x y) (cells : Array Value) (hx : a.eval x = .pointer (some ⟨w0.heap.size, 0, none⟩)) (hy : a.eval y = .agg cells)
    (hi : (P.info? ty).map (·.size) = some cells.size) (hold : A.size = cells.size) (h1 : cells.all (·.oneCell') = true)
    (h : ∀ w', Hid (Row1 w0 w' t cells) → wpList P ops Q rest (a.put o.dst undef) w') : wpList P ops Q (o :: rest) a w :=
  wpList_store_row hgd ty x y ho w0.heap.size cells hx hy t A T.out.a0 hi hold h1
    (h _ (Lib.hid ⟨setRow_heap w _ _ _ t _ T.out.a0, below_setRow T.out.bel (Nat.le_refl _) _, by have := T.out.lt; simpa using this⟩))
theorem results_row_tmp {fn : Func} {p q : Tmp} {ty : TypeId} (h : fn.results = #[.cell p ty, .tmp q]) (tmps : Array Value) (w : World) (g : Nat) (t : TypeId) (cs : Array Value) (fr : Nat × Nat) (d : TypeDesc)
    (hp : tmps.getD p undef = .pointer (some ⟨g, 0, none⟩)) (hg : w.heap[g]? = some (.cells cs t fr)) (hu : P.underlying ty = some d) (hd : (match d with | .struct _ | .array _ _ => true | _ => false) = true)
    (hi : (P.info? ty).map (·.size) = some cs.size) : (results fn tmps).run P w = .ok (.tuple #[.agg cs, tmps.getD q undef]) w := by
  rw [results_cell_tmp h, hp]
  simp [asAddr, Result.andThen, run_loadVar_row w g t ty cs fr d hg hu hd hi]
end
end Go.Proofs.YtegohkgmamnkdaaGreat.Mem
