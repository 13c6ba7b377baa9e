/- A triple's parts, walked. Conditions: its two offsets rise and stay in it. -/
import Derived.Test.YtgogeonbamheoaaSl4
set_option linter.unusedVariables false
namespace Go.Proofs.Ytgogeonbamheoaa.Tri
open Go.ChangeShapes Go.WideShapes Go.ChangeAt Go.RowKit
open Go.Proofs.Ytgogeonbamheoaa.Dig Go.Proofs.Ytgogeonbamheoaa.Mem Go.Proofs.Ytgogeonbamheoaa.Rb Go.Proofs.Ytgogeonbamheoaa.Sl

theorem elem78 : Try.prog.elem 38 = 5 := by kernel_rfl

/-- A triple: the ends of its first two parts stand behind them. -/
structure TriAt (w : World) (a : Option Addr) (e c p q : Nat) (ts : List Nat) : Prop where
  rb : RB w a (e + 4) c ts
  one : p = ts.getD e 0 + 256 * ts.getD (e + 1) 0
  two : q = ts.getD (e + 2) 0 + 256 * ts.getD (e + 3) 0
  le1 : p ≤ q
  le2 : q ≤ e

theorem TriAt.below {w w' : World} {B : Nat} {a : Option Addr} {e c p q : Nat} {ts : List Nat} (h : TriAt w a e c p q ts) (hb : Below B w w') (hB : w.heap.size ≤ B) : TriAt w' a e c p q ts :=
  ⟨h.rb.below hb hB, h.one, h.two, h.le1, h.le2⟩

theorem read_end {w : World} {a : Option Addr} {e c p q : Nat} {ts : List Nat} (h : TriAt w a e c p q ts) : ∃ b o, a = some ⟨b, o, none⟩ ∧
    (∀ d w', Below w.heap.size w w' → Calls Try.prog 32 #[.slice (some ⟨b, o + e, none⟩) 2 d] w' fun x w'' => x = .returned (.int .u16 (p : Int)) ∧ Below w'.heap.size w' w'') ∧
    (∀ d w', Below w.heap.size w w' → Calls Try.prog 32 #[.slice (some ⟨b, o + (e + 2), none⟩) 2 d] w' fun x w'' => x = .returned (.int .u16 (q : Int)) ∧ Below w'.heap.size w' w'') := by
  obtain ⟨b, o, rfl, hb⟩ := h.rb.at_ (by omega)
  have hl := h.rb.len
  refine ⟨b, o, rfl, fun d w' hw => ?_, fun d w' hw => ?_⟩
  · have hb' := hb.below hw (Nat.le_refl _)
    rw [h.one]
    exact readUint16 w' b (o + e) d _ _ (by rw [hb' e (by omega)]) (by rw [Nat.add_assoc, hb' (e + 1) (by omega)]) (getD_lt h.rb.byte (by omega)) (getD_lt h.rb.byte (by omega))
  · have hb' := hb.below hw (Nat.le_refl _)
    rw [h.two]
    exact readUint16 w' b (o + (e + 2)) d _ _ (by rw [hb' (e + 2) (by omega)]) (by rw [Nat.add_assoc, hb' (e + 2 + 1) (by omega)]) (getD_lt h.rb.byte (by omega)) (getD_lt h.rb.byte (by omega))

theorem triFirst (w : World) (a : Option Addr) (e c p q : Nat) (ts : List Nat) (h : TriAt w a e c p q ts) :
    Calls Try.prog 19 #[.slice a (e + 4) c] w fun x w' => x = .returned (.slice a p c) ∧ Below w.heap.size w w' := by
  obtain ⟨b, o, rfl, K, _⟩ := read_end h
  have hle := h.rb.le
  have ht := h.rb.top
  have h1 := h.le1
  have h2 := h.le2
  unfold maxLen at ht
  have K := Lib.hid K
  clear h
  go_enter Try.func19, Try.ntmps19
  go_wp2_with (go_at_call 32; (with_reducible refine (K.out _ _ (Below.refl _ _)).mono ?_); rintro x w1 ⟨rfl, hb⟩)
  go_ret
  exact ⟨rfl, hb⟩

theorem cut78 (a : Option Addr) (n c lo hi : Nat) (k k' : IntKind) (h1 : lo ≤ hi) (h2 : hi ≤ c) :
    ∀ w, (Instr.slice 38 (.slice a n c) (some (.int k (lo : Int))) (some (.int k' (hi : Int))) none).run Try.prog w = .ok (.slice (cutA a c lo) (hi - lo) (c - lo)) w := fun w =>
  cutA_run (by rw [elem78]; exact Try.underlying38) (by rw [elem78]; exact size1 w) a n c k k' lo hi h1 h2

theorem triSecond (w : World) (a : Option Addr) (e c p q : Nat) (ts : List Nat) (h : TriAt w a e c p q ts) :
    Calls Try.prog 20 #[.slice a (e + 4) c] w fun x w' => x = .returned (.slice (cutA a c p) (q - p) (c - p)) ∧ Below w.heap.size w w' := by
  have hle := h.rb.le
  have ht := h.rb.top
  have h1 := h.le1
  have h2 := h.le2
  have hcut := cut78 a (e + 4) c p q .u16 .u16 h1 (by omega)
  obtain ⟨b, o, rfl, K, L⟩ := read_end h
  unfold maxLen at ht
  have K := Lib.hid K
  have L := Lib.hid L
  clear h
  go_enter Try.func20, Try.ntmps20
  go_wp2_with (first
    | (go_at_call 32; (with_reducible refine (K.out _ _ (Below.refl _ _)).mono ?_); rintro x w1 ⟨rfl, hb⟩)
    | (go_at_call 32; (with_reducible refine (L.out _ _ hb).mono ?_); rintro x w2 ⟨rfl, hb2⟩))
  go_ret
  exact ⟨rfl, hb.trans (hb2.mono hb.size)⟩

theorem triThird (w : World) (a : Option Addr) (e c p q : Nat) (ts : List Nat) (h : TriAt w a e c p q ts) :
    Calls Try.prog 21 #[.slice a (e + 4) c] w fun x w' => x = .returned (.slice (cutA a c q) (e - q) (c - q)) ∧ Below w.heap.size w w' := by
  have hle := h.rb.le
  have ht := h.rb.top
  have h1 := h.le1
  have h2 := h.le2
  have hcut := cut78 a (e + 4) c q e .u16 .i64 h2 (by omega)
  obtain ⟨b, o, rfl, _, L⟩ := read_end h
  unfold maxLen at ht
  have L := Lib.hid L
  clear h
  go_enter Try.func21, Try.ntmps21
  go_wp2_with (go_at_call 32; (with_reducible refine (L.out _ _ (Below.refl _ _)).mono ?_); rintro x w1 ⟨rfl, hb⟩)
  go_ret
  exact ⟨rfl, hb⟩

/-- Four results that lie in blocks of their own. -/
structure Four (w0 w : World) (x y z u : Value) : Prop where
  a0 : w.heap[w0.heap.size]? = some (.cells #[x] 22 (0, 0))
  a1 : w.heap[w0.heap.size + 1]? = some (.cells #[y] 22 (0, 0))
  a2 : w.heap[w0.heap.size + 2]? = some (.cells #[z] 22 (0, 0))
  a3 : w.heap[w0.heap.size + 3]? = some (.cells #[u] 4 (0, 0))
  bel : Below w0.heap.size w0 w
  lt : w0.heap.size + 3 < w.heap.size
theorem Four.later {w0 w w' : World} {x y z u : Value} (h : Four w0 w x y z u) (hb : Below w.heap.size w w') : Four w0 w' x y z u := by
  obtain ⟨h1, h2, h3, h4, h5, h6⟩ := h
  exact ⟨(hb.block _ (by omega)).trans h1, (hb.block _ (by omega)).trans h2, (hb.block _ (by omega)).trans h3, (hb.block _ h6).trans h4, h5.trans (hb.mono (by omega)), Nat.lt_of_lt_of_le h6 hb.size⟩
theorem four_start (w : World) (x y z u : Value) : Four w ((((w.alloc (.cells #[x] 22)).alloc (.cells #[y] 22)).alloc (.cells #[z] 22)).alloc (.cells #[u] 4)) x y z u := by
  refine ⟨?_, ?_, ?_, ?_, ?_, by simp⟩
  · exact (Below.heap_alloc _ _ _ (by simp <;> omega)).trans ((Below.heap_alloc _ _ _ (by simp <;> omega)).trans (heap_old2 _ _ _))
  · exact (Below.heap_alloc _ _ _ (by simp <;> omega)).trans ((Below.heap_alloc _ _ _ (by simp <;> omega)).trans (heap_new2 _ _ _))
  · have := heap_alloc_new ((w.alloc (.cells #[x] 22)).alloc (.cells #[y] 22)) (.cells #[z] 22)
    rw [Below.heap_alloc _ _ _ (by simp <;> omega)]
    simpa using this
  · have := heap_alloc_new (((w.alloc (.cells #[x] 22)).alloc (.cells #[y] 22)).alloc (.cells #[z] 22)) (.cells #[u] 4)
    simpa using this
  · exact ((((Below.refl _ _).alloc (Nat.le_refl _) _).alloc (by simp) _).alloc (by simp <;> omega) _).alloc (by simp <;> omega) _
theorem Four.facts {w0 w : World} {x y z u : Value} (h : Four w0 w x y z u) :
    w.cell? ⟨w0.heap.size, 0, none⟩ = some x ∧ w.cell? ⟨w0.heap.size + 1, 0, none⟩ = some y ∧ w.cell? ⟨w0.heap.size + 2, 0, none⟩ = some z ∧ w.cell? ⟨w0.heap.size + 3, 0, none⟩ = some u ∧
    w.frozen? ⟨w0.heap.size, 0, none⟩ = false ∧ w.frozen? ⟨w0.heap.size + 1, 0, none⟩ = false ∧ w.frozen? ⟨w0.heap.size + 2, 0, none⟩ = false ∧ w.frozen? ⟨w0.heap.size + 3, 0, none⟩ = false := by
  obtain ⟨h1, h2, h3, h4, _, _⟩ := h
  refine ⟨?_, ?_, ?_, ?_, ?_, ?_, ?_, ?_⟩ <;> simp [World.cell?, World.frozen?, h1, h2, h3, h4]
theorem Four.set {w0 w : World} {x y z u : Value} (h : Four w0 w x y z u) (x' y' z' u' : Value) :
    Four w0 ((((w.setCell ⟨w0.heap.size, 0, none⟩ x').setCell ⟨w0.heap.size + 1, 0, none⟩ y').setCell ⟨w0.heap.size + 2, 0, none⟩ z').setCell ⟨w0.heap.size + 3, 0, none⟩ u') x' y' z' u' := by
  obtain ⟨h1, h2, h3, h4, h5, h6⟩ := h
  refine ⟨?_, ?_, ?_, ?_, (((h5.setCell (by simp) _).setCell (by simp) _).setCell (by simp) _).setCell (by simp) _, by simpa [World.setCell] using h6⟩
  all_goals simp [World.setCell, Array.getElem?_modify, h1, h2, h3, h4]

theorem idle43 (p q r s : Addr) (w : World) :
    CallsD Try.prog 18 #[.pointer (some p), .pointer (some q), .pointer (some r), .pointer (some s)] .returning w fun e u' w' => e = .returned (.tuple #[]) ∧ u' = .returning ∧ w' = w := by
  refine callsD_of_wpS Try.func18 rfl fun c₀ cs hu => ?_
  apply wpS_seq
  apply wpS_region
  simp [wpOpsS, go_sem, recoverD, hu, Try.ntmps18, Exit.thenS]
  refine wpS_cond (t := false) (by simp [Act.eval, Array.replicate]) ?_
  simp only [Bool.false_eq_true, if_false]
  refine wpS_of_wp (wp_skip ?_)
  cases c₀
  simp_all [bodyPostS, results, Try.results18]

theorem tripleParts (w : World) (a : Option Addr) (e c p q : Nat) (ts : List Nat) (h : TriAt w a e c p q ts) :
    Calls Try.prog 6 #[.slice a (e + 4) c] w fun x w' =>
      x = .returned (.tuple #[.slice a p c, .slice (cutA a c p) (q - p) (c - p), .slice (cutA a c q) (e - q) (c - q), .bool true]) ∧ Below w.heap.size w w' := by
  have hmf : ∀ (fn : Fn) (first cap : Array Value) (w : World), (Instr.makeFunc fn first cap).run Try.prog w = .ok (.func fn first cap) w := fun _ _ _ _ => rfl
  have hB1 : w.heap.size + 1 ≠ w.heap.size := by omega
  have hB2 : w.heap.size + 2 ≠ w.heap.size := by omega
  have hB3 : w.heap.size + 3 ≠ w.heap.size := by omega
  have K1 := Lib.hid fun w' (hb : Below w.heap.size w w') => triFirst w' a e c p q ts (h.below hb (Nat.le_refl _))
  have K2 := Lib.hid fun w' (hb : Below w.heap.size w w') => triSecond w' a e c p q ts (h.below hb (Nat.le_refl _))
  have K3 := Lib.hid fun w' (hb : Below w.heap.size w w') => triThird w' a e c p q ts (h.below hb (Nat.le_refl _))
  have T0 := Lib.hid (four_start w (.slice none 0 0) (.slice none 0 0) (.slice none 0 0) (.bool false))
  clear h
  go_enter_defers Try.func6, Try.ntmps6
  go_wp2_with (first
    | (go_at_call 19; (with_reducible refine (K1.out _ T0.out.bel).mono ?_); rintro x w1 ⟨rfl, hb1⟩; have T1 := Lib.hid (T0.out.later hb1))
    | (go_at_call 20; (with_reducible refine (K2.out _ T1.out.bel).mono ?_); rintro x w2 ⟨rfl, hb2⟩; have T2 := Lib.hid (T1.out.later hb2))
    | (go_at_call 21; (with_reducible refine (K3.out _ T2.out.bel).mono ?_); rintro x w3 ⟨rfl, hb3⟩; have T3 := Lib.hid (T2.out.later hb3); obtain ⟨c0, c1, c2, c3, f0, f1, f2, f3⟩ := T3.out.facts))
  have T4 := T3.out.set (.slice a p c) (.slice (cutA a c p) (q - p) (c - p)) (.slice (cutA a c q) (e - q) (c - q)) (.bool true)
  obtain ⟨g0, g1, g2, g3, _, _, _, _⟩ := T4.facts
  have hbel := T4.bel
  refine leaves_cons (f := 18) (args := #[.pointer (some ⟨w.heap.size, 0, none⟩), .pointer (some ⟨w.heap.size + 1, 0, none⟩), .pointer (some ⟨w.heap.size + 2, 0, none⟩), .pointer (some ⟨w.heap.size + 3, 0, none⟩)]) (by simp) (by simp [go_sem]) ?_
  refine (idle43 _ _ _ _ _).mono ?_
  rintro e u' w'' ⟨rfl, rfl, rfl⟩
  simp [Leaves, settle, results, Try.results6, go_sem, g0, g1, g2, g3]
  exact hbel
end Go.Proofs.Ytgogeonbamheoaa.Tri
