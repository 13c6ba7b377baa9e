/- A builder of messages: an object's slots, a vector's start and end, walked. Condition: it grows once at most. -/
import Derived.Test.YtegohkgmamnkdaaBld7
set_option linter.unusedVariables false
namespace Go.Proofs.Ytegohkgmamnkdaa.Msg
open Go.ChangeShapes Go.WideShapes Go.ChangeAt Go.RowKit
open Go.Proofs.Ytegohkgmamnkdaa.Dig Go.Proofs.Ytegohkgmamnkdaa.Mem Go.Proofs.Ytegohkgmamnkdaa.Rb

/-- A block of offsets. -/
def us (vs : List Nat) : List Value := vs.map fun (v : Nat) => Value.int .u32 (v : Int)
def UO (vs : List Nat) : Obj := .cells (us vs).toArray 44 (0, 0)
theorem us_length (vs : List Nat) : (us vs).length = vs.length := by simp [us]
theorem us_get {vs : List Nat} {i : Nat} (h : i < vs.length) : (us vs)[i]? = some (.int .u32 ((vs.getD i 0 : Nat) : Int)) := by
  simp [us, List.getElem?_eq_getElem h]
theorem us_set (vs : List Nat) (i v : Nat) : (us vs).toArray.setIfInBounds i (.int .u32 (v : Int)) = (us (vs.set i v)).toArray := by
  simp [us, List.map_set]

theorem drewN2 (w : World) (n m : Nat) : (w.drewN n).drewN m = w.drewN (n + m) := by simp [World.drewN, Nat.add_assoc]
theorem quiet_off {P : Program} {f : FuncId} {args : Array Value} {w : World} {n : Nat} {v : Value}
    (h : Calls P f args (w.drewN n) fun e w' => e = .returned v ∧ ∃ m, w' = (w.drewN n).drewN m) : Calls P f args (w.drewN n) fun e w'' => e = .returned v ∧ ∃ m, w'' = w.drewN m :=
  h.mono fun _ _ ⟨he, m, hm⟩ => ⟨he, n + m, by rw [hm, drewN2]⟩

section
variable {w0 w : World} {B N0 r : Nat} {K : List (Nat × Obj)} {xs : List Nat} {s : St}
theorem Bx.keep (h : Bx w0 w B N0 r K xs s) : ∀ p ∈ K, w.heap[p.1]? = some p.2 ∧ p.1 ≠ B ∧ w0.heap.size ≤ p.1 := by
  obtain ⟨g, N, C, H, h⟩ := h
  exact fun p hp => ⟨(h.keep p hp).1, (h.keep p hp).2.1, (h.keep p hp).2.2.2⟩
theorem Bx.setK {V i : Nat} {A : Array Value} {t : TypeId} {fr : Nat × Nat} {v : Value} (h : Bx w0 w B N0 r ((V, .cells A t fr) :: K) xs s) (hV : ∀ p ∈ K, p.1 ≠ V) :
    Bx w0 (w.setCell ⟨V, i, none⟩ v) B N0 r ((V, .cells (A.setIfInBounds i v) t fr) :: K) xs s := by
  obtain ⟨g, N, C, H, h⟩ := h
  obtain ⟨k1, k2, k3, k4⟩ := h.keep _ (List.mem_cons_self ..)
  have hw := Wr.setCell (S := [V]) (g := V) (o := i) w v (by simp)
  refine ⟨g, N, C, H, h.bd.later hw (by simpa using Ne.symm k2) (by simpa using Ne.symm k3), h.nn, h.room, h.bel.trans (hw.below (by simpa using k4) h.bel.size), h.hB, h.hg, fun p hp => ?_⟩
  rcases List.mem_cons.1 hp with rfl | hp
  · exact ⟨setCell_heap k1, k2, k3, k4⟩
  · obtain ⟨j1, j2, j3, j4⟩ := h.keep p (List.mem_cons_of_mem _ hp)
    exact ⟨(hw.block p.1 (lt_of_obj j1) (by simpa using hV p hp)).trans j1, j2, j3, j4⟩
/-- A new block. -/
theorem Bx.push (h : Bx w0 w B N0 r K xs s) (o : Obj) : Bx w0 (w.alloc o) B N0 r ((w.heap.size, o) :: K) xs s := by
  obtain ⟨g, N, C, H, h⟩ := h
  have hw : Wr [] w (w.alloc o) := Wr.of_below ((Below.refl _ _).alloc (Nat.le_refl _) _)
  obtain ⟨Z, hz⟩ := h.bd
  have h1 := hz.lt
  have h2 := hz.buf.lt
  refine ⟨g, N, C, H, h.bd.later hw (by simp) (by simp), h.nn, h.room, h.bel.trans (hw.below (by simp) h.bel.size), h.hB, h.hg, fun p hp => ?_⟩
  rcases List.mem_cons.1 hp with rfl | hp
  · exact ⟨heap_alloc_new _ _, by simp only; omega, by simp only; omega, h.bel.size⟩
  · obtain ⟨j1, j2, j3, j4⟩ := h.keep p hp
    exact ⟨(hw.block p.1 (lt_of_obj j1) (by simp)).trans j1, j2, j3, j4⟩
theorem Bx.drop {K' : List (Nat × Obj)} (h : Bx w0 w B N0 r K xs s) (hk : ∀ p ∈ K', p ∈ K) : Bx w0 w B N0 r K' xs s := by
  obtain ⟨g, N, C, H, h⟩ := h
  exact ⟨g, N, C, H, h.bd, h.nn, h.room, h.bel, h.hB, h.hg, fun p hp => h.keep p (hk p hp)⟩
theorem Bx.less {r' : Nat} (h : Bx w0 w B N0 r K xs s) (hr : r' ≤ r) : Bx w0 w B N0 r' K xs s := by
  obtain ⟨g, N, C, H, h⟩ := h
  exact ⟨g, N, C, H, h.less hr⟩
theorem Bx.bel (h : Bx w0 w B N0 r K xs s) : Below w0.heap.size w0 w := by
  obtain ⟨g, N, C, H, h⟩ := h; exact h.bel
theorem Bx.notNested (h : Bx w0 w B N0 r K xs s) (hs : s.ne = false) : Calls Try.prog 54 #[.pointer (some ⟨B, 0, none⟩)] w fun e w' => e = .returned (.tuple #[]) ∧ w = w' := by
  obtain ⟨g, N, C, H, h⟩ := h; exact Msg.notNested w B g N C H xs s h.bd hs
theorem Bx.nested (h : Bx w0 w B N0 r K xs s) (hs : s.ne = true) : Calls Try.prog 57 #[.pointer (some ⟨B, 0, none⟩)] w fun e w' => e = .returned (.tuple #[]) ∧ w = w' := by
  obtain ⟨g, N, C, H, h⟩ := h; exact Msg.nested w B g N C H xs s h.bd hs

set_option maxRecDepth 100000 in
theorem slot (w0 w : World) (B N0 r V n o L : Nat) (K : List (Nat × Obj)) (vs xs : List Nat) (s : St) (h : Bx w0 w B N0 r ((V, UO vs) :: K) xs s) (hV : ∀ p ∈ K, p.1 ≠ V) (hvt : s.vt = .slice (some ⟨V, 0, none⟩) n n) (hn : vs.length = n) (ho : o < n) (hL : L = xs.length) :
    Calls Try.prog 61 #[.pointer (some ⟨B, 0, none⟩), .int .i64 (o : Int)] w fun e w' => e = .returned (.tuple #[]) ∧ Bx w0 w' B N0 r ((V, UO (vs.set o L)) :: K) xs s := by
  obtain ⟨_, c2, _⟩ := h.cell
  rw [hvt] at c2
  have hk := (h.keep _ (List.mem_cons_self ..)).1
  have cv : ∀ m, (w.drewN m).cell? ⟨V, o, none⟩ = some (.int .u32 ((vs.getD o 0 : Nat) : Int)) := fun m => by
    have : (w.drewN m).heap[V]? = some (UO vs) := hk
    simp only [World.cell?, this, UO]
    simpa using us_get (show o < vs.length by omega)
  have fv : ∀ m, (w.drewN m).frozen? ⟨V, o, none⟩ = false := fun m => by
    have : (w.drewN m).heap[V]? = some (UO vs) := hk
    simp only [World.frozen?, this, UO]; simp
  have HH := Lib.hid h
  have HV := Lib.hid hV
  have HL := Lib.hid hL
  have HE := Lib.hid (us_set vs o L)
  clear h hV hL hn hk hvt
  go_enter Try.func61, Try.ntmps61
  go_wp2_with fail
  refine region_quiet_tail 8 (C := fun w' => ∃ m, w' = w.drewN m) (by kernel_rfl) (by kernel_rfl) ⟨1, rfl⟩ ?_
  simp only [List.take_succ_cons, List.take_zero, List.drop_succ_cons, List.drop_zero]
  iterate 8 go_big_quiet_step ((go_at_call 55; exact quiet_off ((HH.out.drewN _).offset L HL.out)))
  refine wpQuiet_nil ?_
  rintro _ ⟨m, rfl⟩
  go_wp2_with fail
  go_end0
  have := (HH.out.drewN m).setK (i := o) (v := .int .u32 (L : Int)) HV.out
  rw [HE.out] at this
  exact ⟨rfl, this⟩
end
end Go.Proofs.Ytegohkgmamnkdaa.Msg
