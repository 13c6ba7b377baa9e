/- Words for memory: a slice of whole numbers that reads as a list, whatever its address; openers for arguments. No condition. -/
import Derived.Test.YtegohkgmamnkdaaGreatRows
import Derived.WalkKit
import Derived.ProofKit
import Derived.OpenShut
import Derived.ShutString
import Derived.ChangeOld
import Derived.Below
import Derived.Handy
import Derived.Lib.Hide
import Derived.Lib.BytesEntry
import Derived.Deep.QuietTactic
import Derived.BigQuiet
import Derived.Deep.Draws
set_option linter.unusedVariables false
namespace Go.Proofs.YtegohkgmamnkdaaGreat.Mem
open Go.ChangeShapes Go.WideShapes Go.ChangeAt Go.RowKit

/-- A slice of n numbers of a kind: what its cells hold. -/
def IsRow (k : IntKind) (w : World) (a : Option Addr) (n c : Nat) (xs : List Int) : Prop :=
  xs.length = n ∧ n ≤ c ∧ c ≤ maxLen ∧ (∀ x ∈ xs, (Lit.int k x).wf = true) ∧
  (0 < n → ∃ b o, a = some ⟨b, o, none⟩ ∧ b < w.heap.size ∧ ∀ i, i < n → w.cell? ⟨b, o + i, none⟩ = some (.int k (xs.getD i 0)))

theorem lt_of_cell {w : World} {a : Addr} {v : Value} (h : w.cell? a = some v) : a.block < w.heap.size := World.block_lt_of_cell? w a h

theorem IsRow.below {k : IntKind} {w w' : World} {B : Nat} {a : Option Addr} {n c : Nat} {xs : List Int} (h : IsRow k w a n c xs) (hB : w.heap.size ≤ B) (hb : Below B w w') : IsRow k w' a n c xs := by
  obtain ⟨h1, h2, h3, h4, h5⟩ := h
  refine ⟨h1, h2, h3, h4, fun hn => ?_⟩
  obtain ⟨b, o, e, hlt, hc⟩ := h5 hn
  exact ⟨b, o, e, Nat.lt_of_lt_of_le hlt hb.size, fun i hi => (hb.cell (p := ⟨b, o + i, none⟩) (Nat.lt_of_lt_of_le hlt hB)).trans (hc i hi)⟩

theorem bdn {B : Nat} {w w' : World} (h : Below B w w') (n : Nat) : Below B w (w'.drewN n) := ⟨h.os, h.tape, h.output, h.size, h.block⟩
theorem heap_new2 (w : World) (o o' : Obj) : ((w.alloc o).alloc o').heap[w.heap.size + 1]? = some o' := by
  have := heap_alloc_new (w.alloc o) o'
  simpa using this
theorem heap_old2 (w : World) (o o' : Obj) : ((w.alloc o).alloc o').heap[w.heap.size]? = some o :=
  (Below.heap_alloc _ _ _ (by simp)).trans (heap_alloc_new w _)

/-- A call in a region that only reads, whose contract states the world on the left. -/
theorem quiet_left {P : Program} {f : FuncId} {args : Array Value} {w : World} {n : Nat} {v : Value}
    (h : Calls P f args (w.drewN n) fun e w' => e = .returned v ∧ w.drewN n = w') : Calls P f args (w.drewN n) fun e w'' => e = .returned v ∧ ∃ m, w'' = w.drewN m :=
  h.mono fun _ _ ⟨he, hm⟩ => ⟨he, n, hm.symm⟩

/-! ### Two results that lie in blocks of their own (a function that defers) -/
/-- Blocks B and B + 1 hold one cell each. -/
def Two (w0 w : World) (t u : TypeId) (x y : Value) : Prop :=
  w.heap[w0.heap.size]? = some (.cells #[x] t (0, 0)) ∧ w.heap[w0.heap.size + 1]? = some (.cells #[y] u (0, 0)) ∧ Below w0.heap.size w0 w ∧ w0.heap.size + 1 < w.heap.size
theorem two_start (w : World) (t u : TypeId) (x y : Value) : Two w ((w.alloc (.cells #[x] t)).alloc (.cells #[y] u)) t u x y :=
  ⟨heap_old2 _ _ _, heap_new2 _ _ _, ((Below.refl _ _).alloc (Nat.le_refl _) _).alloc (by simp) _, by simp⟩
theorem Two.later {w0 w w' : World} {t u : TypeId} {x y : Value} (h : Two w0 w t u x y) (hb : Below w.heap.size w w') : Two w0 w' t u x y := by
  obtain ⟨h1, h2, h3, h4⟩ := h
  exact ⟨(hb.block _ (by omega)).trans h1, (hb.block _ h4).trans h2, h3.trans (hb.mono (by omega)), Nat.lt_of_lt_of_le h4 hb.size⟩
theorem Two.alloc {w0 w : World} {t u : TypeId} {x y : Value} (h : Two w0 w t u x y) (o : Obj) : Two w0 (w.alloc o) t u x y := h.later ((Below.refl _ _).alloc (Nat.le_refl _) _)
theorem Two.below {w0 w : World} {t u : TypeId} {x y : Value} (h : Two w0 w t u x y) : Below w0.heap.size w0 w := h.2.2.1
theorem Two.facts {w0 w : World} {t u : TypeId} {x y : Value} (h : Two w0 w t u x y) :
    w.cell? ⟨w0.heap.size, 0, none⟩ = some x ∧ w.cell? ⟨w0.heap.size + 1, 0, none⟩ = some y ∧ w.frozen? ⟨w0.heap.size, 0, none⟩ = false ∧ w.frozen? ⟨w0.heap.size + 1, 0, none⟩ = false := by
  obtain ⟨h1, h2, _, _⟩ := h
  refine ⟨?_, ?_, ?_, ?_⟩ <;> simp [World.cell?, World.frozen?, h1, h2]
theorem Two.set0 {w0 w : World} {t u : TypeId} {x y : Value} (h : Two w0 w t u x y) (v : Value) : Two w0 (w.setCell ⟨w0.heap.size, 0, none⟩ v) t u v y := by
  obtain ⟨h1, h2, h3, h4⟩ := h
  refine ⟨?_, ?_, h3.setCell (by simp) _, by simpa [World.setCell] using h4⟩
  · simp [World.setCell, Array.getElem?_modify, h1]
  · simp [World.setCell, Array.getElem?_modify, h2]
theorem Two.set1 {w0 w : World} {t u : TypeId} {x y : Value} (h : Two w0 w t u x y) (v : Value) : Two w0 (w.setCell ⟨w0.heap.size + 1, 0, none⟩ v) t u x v := by
  obtain ⟨h1, h2, h3, h4⟩ := h
  refine ⟨?_, ?_, h3.setCell (by simp) _, by simpa [World.setCell] using h4⟩
  · simp [World.setCell, Array.getElem?_modify, h1]
  · simp [World.setCell, Array.getElem?_modify, h2]

/-! ### Regions that draw their order, whose operations read and whose callees may make memory -/
/-- A world behind w0: below w0's size nothing has turned. -/
structure Later (w0 : World) where
  val : World
  below : Below w0.heap.size w0 val
theorem Later.heap {w0 : World} (x : Later w0) {b : Nat} {o : Obj} (h : w0.heap[b]? = some o) : x.val.heap[b]? = some o := by
  have hlt : b < w0.heap.size := by
    rcases Nat.lt_or_ge b w0.heap.size with h' | h'
    · exact h'
    · rw [Array.getElem?_eq_none h'] at h; cases h
  rw [x.below.block b hlt, h]
instance (w0 : World) : Nonempty (Later w0) := ⟨⟨w0, Below.refl _ _⟩⟩
theorem later_first (w0 : World) : ∃ x : Later w0, ({ w0 with drawn := w0.drawn + 1 } : World) = x.val := ⟨⟨w0.drew, Below.drew (Below.refl _ _)⟩, rfl⟩
/-- A call in such a region. -/
theorem later_call {P : Program} {f : FuncId} {args : Array Value} {w0 : World} {x : Later w0} {v : Value}
    (h : Calls P f args x.val fun e w' => e = .returned v ∧ Below x.val.heap.size x.val w') : Calls P f args x.val fun e w'' => e = .returned v ∧ ∃ y : Later w0, w'' = y.val :=
  h.mono fun _ w' ⟨he, hb⟩ => ⟨he, ⟨w', x.below.trans (hb.mono x.below.size)⟩, rfl⟩
theorem q_load_row {P : Program} {ops : Array Oper} {C : World → Prop} {Q : Act → Prop} {a : Act} {o : Oper} {rest : List Oper} (hw : Region.wanted o (yielded ops a.tmps) = true)
    (ty : TypeId) (x : Operand) (ho : o.op = .load ty x) (g : Nat) (hx : a.eval x = .pointer (some ⟨g, 0, none⟩)) (t : TypeId) (cs : Array Value) (fr : Nat × Nat) (d : TypeDesc)
    (hg : ∀ w, C w → w.heap[g]? = some (.cells cs t fr)) (hu : P.underlying ty = some d) (hd : (match d with | .struct _ | .array _ _ => true | _ => false) = true) (hi : (P.info? ty).map (·.size) = some cs.size)
    (h : wpQuiet P ops C Q rest (a.put o.dst (.agg cs))) : wpQuiet P ops C Q (o :: rest) a :=
  wpQuiet_step fun K hK => by
    rw [if_pos hw]
    refine ⟨.agg cs, fun w hC => ?_, hK _ h⟩
    have hr := run_loadVar_row (P := P) w g t ty cs fr d (hg w hC) hu hd hi
    unfold Oper.quietAt execOp
    simp only [ho, hx, Instr.loadAt, Instr.sureAddr, Sem.run_bind, Sem.run_pure, Result.andThen_ok, hr]
    exact ⟨rfl, rfl⟩
theorem q_eql {P : Program} {ops : Array Oper} {C : World → Prop} {Q : Act → Prop} {a : Act} {o : Oper} {rest : List Oper} (hw : Region.wanted o (yielded ops a.tmps) = true)
    (t t' : TypeId) (op : BinOp) (x y : Operand) (ho : o.op = .binOp op t x y t') (hsh : op ≠ .shl ∧ op ≠ .shr) (u v r : Value) (hx : a.eval x = u) (hy : a.eval y = v)
    (hr : ∀ w, C w → (execOp a.eval o).run P w = .ok (.value r) w)
    (h : wpQuiet P ops C Q rest (a.put o.dst r)) : wpQuiet P ops C Q (o :: rest) a :=
  wpQuiet_step fun K hK => by
    rw [if_pos hw]
    refine ⟨r, fun w hC => ?_, hK _ h⟩
    unfold Oper.quietAt
    rw [hr w hC]
    exact ⟨rfl, rfl⟩

section
variable {H : Type} {enc : TypeId × Value → H} {P : Program} {w : World} {base b0 : Nat} {spare : Nat → Bool} {held : Bool} {t e : TypeId} {v : Value} {d : DataW H} {p : List MemPlace}

theorem open_row {k : IntKind} (ht : P.underlying t = some (.slice e)) (he : P.underlying e = some (.int k)) (hc : P.cellsOf e = 1)
    (ho : Value.okWide P w .any b0 t v) (h : DataW.Trod enc P w base spare held t v d p) : ∃ a n c xs, v = .slice a n c ∧ IsRow k w a n c xs := by
  obtain ⟨a, n, c, rfl⟩ := okWide_slice ht ho
  obtain ⟨fuel, hf⟩ := h
  rcases open_ints ht he hc hf with ⟨hcs, _⟩ | ⟨x, l, c', zs, hcs, _, hl, hm, hz, _, hcell, hwz⟩
  · simp [Value.cells] at hcs
    obtain ⟨rfl, rfl, rfl⟩ := hcs
    exact ⟨none, 0, 0, [], rfl, rfl, Nat.le_refl _, Nat.zero_le _, by simp, fun h => absurd h (by omega)⟩
  · simp [Value.cells] at hcs
    obtain ⟨rfl, rfl, rfl⟩ := hcs
    have hzl : n ≤ zs.length := by split at hz <;> omega
    refine ⟨_, _, _, zs.take n, rfl, by rw [List.length_take]; omega, hl, hm, fun y hy => hwz y (List.mem_of_mem_take hy), fun hn => ?_⟩
    obtain ⟨b, o, spot⟩ := x
    have h0 := hcell 0 (by omega)
    have hspot : spot = none := by simpa [Addr.add] using World.cell?_spot h0
    subst hspot
    refine ⟨b, o, rfl, lt_of_cell h0, fun i hi => ?_⟩
    have hi' := hcell i (by omega)
    rw [List.getD_eq_getElem?_getD, List.getElem?_take_of_lt hi, ← List.getD_eq_getElem?_getD, ← hi']
    unfold Addr.add
    by_cases h00 : i = 0
    · subst h00; simp
    · simp [h00]

theorem open_array {k : IntKind} {n : Nat} (ht : P.underlying t = some (.array n e)) (he : P.underlying e = some (.int k)) (hc : P.cellsOf e = 1)
    (ho : Value.okWide P w .any b0 t v) (hC : P.cellsOf t = n) (h : DataW.Trod enc P w base spare held t v d p) :
    ∃ xs : List Int, v = .agg (xs.map (Value.int k)).toArray ∧ xs.length = n ∧ ∀ x ∈ xs, (Lit.int k x).wf = true := by
  obtain ⟨cs, rfl, hsz, _⟩ : ∃ cs, v = .agg cs ∧ cs.size = P.cellsOf t ∧ Row.okWide P w .any b0 t cs := by
    simpa [Value.okWide, ht] using ho
  obtain ⟨l⟩ := cs
  obtain ⟨fuel, hf⟩ := h
  obtain ⟨ys, m, _, _, hlen, hl, hel⟩ := DataW.trod_array ht hf
  rw [hc] at hel
  have hln : l.length = n := by simpa [hC] using hsz
  have hall : ∀ i (hi : i < l.length), ∃ x : Int, l[i] = .int k x ∧ (Lit.int k x).wf = true := by
    intro i hi
    have h1 := hel i (by omega)
    have e1 : ((Value.cells (.agg ⟨l⟩)).toList.drop (i * 1)).take 1 = [l[i]] := by
      simp only [Value.cells, Nat.mul_one]
      rw [List.drop_eq_getElem_cons hi]
      rfl
    rw [e1, List.getElem?_eq_getElem (by omega)] at h1
    obtain ⟨x, e0, _, w0⟩ := DataW.trod_int he h1
    exact ⟨x, by simpa using e0, w0⟩
  clear hel hsz ho hl hlen
  have : ∀ (l : List Value), (∀ i (hi : i < l.length), ∃ x : Int, l[i] = .int k x ∧ (Lit.int k x).wf = true) → ∃ xs : List Int, l = xs.map (Value.int k) ∧ ∀ x ∈ xs, (Lit.int k x).wf = true := by
    intro l
    induction l with
    | nil => intro _; exact ⟨[], rfl, by simp⟩
    | cons a l ih =>
      intro h
      obtain ⟨x, hx, hw⟩ := h 0 (by simp)
      obtain ⟨xs, hxs, hws⟩ := ih fun i hi => h (i + 1) (by simpa using hi)
      refine ⟨x :: xs, ?_, ?_⟩
      · simp at hx; simp [hx, hxs]
      · intro y hy
        rcases List.mem_cons.1 hy with rfl | hy
        · exact hw
        · exact hws y hy
  obtain ⟨xs, hxs, hws⟩ := this l hall
  refine ⟨xs, by rw [hxs], ?_, hws⟩
  rw [hxs, List.length_map] at hln
  exact hln
end

end Go.Proofs.YtegohkgmamnkdaaGreat.Mem
