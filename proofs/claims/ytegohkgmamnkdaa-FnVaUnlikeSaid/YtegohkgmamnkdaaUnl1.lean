/- Copies of a node's rows; two nodes whose messages differ. No condition. -/
import Derived.Test.YtegohkgmamnkdaaUnl0
set_option linter.unusedVariables false
namespace Go.Proofs.Ytegohkgmamnkdaa.Msg
open Go.ChangeShapes Go.WideShapes Go.ChangeAt Go.RowKit
open Go.Proofs.Ytegohkgmamnkdaa.Dig Go.Proofs.Ytegohkgmamnkdaa.Mem Go.Proofs.Ytegohkgmamnkdaa.Rb
open Go.Proofs.Ytegohkgmamnkdaa.Cnt (encs enc Nums64)

theorem infoSl : (Try.prog.info? 27).map (fun i => (i.zero, i.size, i.bytes)) = some (some (.slice none 0 0), 1, 24) := by kernel_rfl
theorem infoU64 : (Try.prog.info? 28).map (fun i => (i.zero, i.size, i.bytes)) = some (some (.int .u64 0), 1, 8) := by kernel_rfl
def u64s (ls : List Nat) : List Value := ls.map fun (x : Nat) => Value.int .u64 (x : Int)
theorem wrap_nat (A : Int) : ∃ x : Nat, IntKind.u64.wrap A = (x : Int) := ⟨(IntKind.u64.wrap A).toNat, by rw [IntKind.wrap_u64]; omega⟩
theorem tmod_nat (x y : Nat) : (x : Int).tmod (y : Int) = ((x % y : Nat) : Int) := by rw [Int.tmod_eq_emod_of_nonneg (by omega)]; omega
theorem Flds.src {w : World} {a : Option Addr} {n c : Nat} {fs : List Fld} (h : Flds w a n c fs) : 0 < n → ∃ b of, a = some ⟨b, of, none⟩ ∧ b < w.heap.size ∧ ∀ j u, (fs.map Fld.v)[j]? = some u → w.cell? ⟨b, of + j, none⟩ = some u := fun h0 => by
  obtain ⟨b, o, e, hlt, hc⟩ := h.at_ h0
  refine ⟨b, o, e, hlt, fun j u hj => ?_⟩
  have hjl : j < n := by have := (List.getElem?_eq_some_iff.1 hj).1; rw [List.length_map, h.len] at this; exact this
  rw [hc j hjl, ← hj]
  simp [List.getD_eq_getElem?_getD, List.getElem?_eq_getElem (show j < fs.length by rw [h.len]; exact hjl)]
theorem nums_src {w : World} {a : Option Addr} {n : Nat} {ls : List Nat} (h : Nums64 w a ls) (hl : ls.length = n) : 0 < n → ∃ b of, a = some ⟨b, of, none⟩ ∧ b < w.heap.size ∧ ∀ j u, (u64s ls)[j]? = some u → w.cell? ⟨b, of + j, none⟩ = some u := fun h0 => by
  obtain ⟨b, o, e, hlt, hc⟩ := h (by omega)
  refine ⟨b, o, e, hlt, fun j u hj => ?_⟩
  have hjl : j < ls.length := by have := (List.getElem?_eq_some_iff.1 hj).1; rw [u64s, List.length_map] at this; exact this
  rw [hc j hjl, ← hj]
  simp [u64s, List.getD_eq_getElem?_getD, List.getElem?_eq_getElem hjl]
theorem Flds.some_ {w : World} {a : Option Addr} {n c : Nat} {fs : List Fld} (h : Flds w a n c fs) (h0 : 0 < n) : a = none → c = 0 ∧ n = 0 := fun ha => by
  obtain ⟨b, o, e, _⟩ := h.at_ h0
  rw [ha] at e; cases e
theorem one_v (fs : List Fld) : ∀ u ∈ fs.map Fld.v, u.oneCell' = true := fun u hu => by obtain ⟨f, _, rfl⟩ := List.mem_map.1 hu; rfl
theorem one_u (ls : List Nat) : ∀ u ∈ u64s ls, u.oneCell' = true := fun u hu => by obtain ⟨f, _, rfl⟩ := List.mem_map.1 hu; rfl
/-- A copy of rows: a slice of the same rows, in a block of its own. -/
theorem flds_copy {w : World} {g n C : Nat} {fs : List Fld} (h : RowV w g C 27 (fs.map Fld.v)) (hl : fs.length = n) (hC : n ≤ C) (hM : C ≤ maxLen) (hok : ∀ f ∈ fs, FldOk w f) : Flds w (some ⟨g, 0, none⟩) n C fs :=
  ⟨hl, hC, hM, hok, fun _ => ⟨g, 0, rfl, h.lt, fun i hi => by
    rw [Nat.zero_add, h.cell (by rw [List.length_map]; omega)]
    simp [List.getD_eq_getElem?_getD, List.getElem?_eq_getElem (show i < fs.length by omega)]⟩⟩
theorem nums_copy {w : World} {g C : Nat} {ls : List Nat} (h : RowV w g C 28 (u64s ls)) : Nums64 w (some ⟨g, 0, none⟩) ls := fun _ => ⟨g, 0, rfl, h.lt, fun i hi => by
    rw [Nat.zero_add, h.cell (by rw [u64s, List.length_map]; omega)]
    simp [u64s, List.getD_eq_getElem?_getD, List.getElem?_eq_getElem hi]⟩
theorem own_u {w : World} {base n : Nat} {v : Value} {ls : List Nat} (h : w.ownsRow base 28 1 v n (u64s ls)) : ∃ d ck, v = .slice d n ck ∧ n ≤ ck ∧ ck ≤ maxLen ∧ (0 < n → ∃ g, d = some ⟨g, 0, none⟩ ∧ base ≤ g ∧ RowV w g ck 28 (u64s ls)) := by
  rcases h.2 with ⟨h1, h2⟩ | ⟨g, cap, cur, hv, hb, hh, hle, hmax, hsz, htake⟩
  · subst h2; exact ⟨none, 0, h1, Nat.le_refl _, Nat.zero_le _, fun h => by omega⟩
  · refine ⟨some ⟨g, 0, none⟩, cap, hv, hle, hmax, fun h0 => ?_⟩
    obtain ⟨g', C', e, _, _, hb', hr⟩ := rowV_own h h0
    rw [hv] at e
    cases e
    exact ⟨g, rfl, hb', hr⟩
theorem FldOk.below {w w' : World} {f : Fld} (h : FldOk w f) (hb : Below w.heap.size w w') : FldOk w' f := ⟨h.1.below hb (Nat.le_refl _), h.2⟩
theorem bw {w a b : World} (h : Below w.heap.size w a) (k : Below a.heap.size a b) : Below w.heap.size w b := h.trans (k.mono h.size)

theorem RowV.other {w : World} {b i g C : Nat} {e : TypeId} {v : Value} {cs : List Value} (h : RowV w g C e cs) (hne : b ≠ g) : RowV (w.setCell ⟨b, i, none⟩ v) g C e cs := by
  obtain ⟨rest, h1, h2⟩ := h
  refine ⟨rest, h1, ?_⟩
  simp only [World.setCell, Array.getElem?_modify]
  rw [if_neg hne, h2]
theorem RowV.rb {w : World} {g C n : Nat} {xs : List Nat} (h : RowV w g C 5 (bs xs)) (hn : xs.length = n) (hC : n ≤ C) (hM : C ≤ maxLen) (hb : ∀ x ∈ xs, x < 256) : RB w (some ⟨g, 0, none⟩) n C xs :=
  ⟨hn, hC, hM, hb, fun _ => ⟨g, 0, rfl, fun i hi => by rw [Nat.zero_add, h.cell (by rw [bs_length]; exact hi), bs_get hi]⟩⟩
/-- Copies of a node's rows, in blocks of their own. -/
structure Cp (w0 w : World) (y1 y2 : Nat) (d : Option Addr) (m C1 C2 k C3 : Nat) (fs gs : List Fld) (ls : List Nat) : Prop where
  r1 : RowV w y1 C1 27 (fs.map Fld.v)
  r2 : RowV w y2 C2 27 (gs.map Fld.v)
  l1 : fs.length = m
  l2 : gs.length = m
  l3 : ls.length = k
  c1 : m ≤ C1
  c2 : m ≤ C2
  c3 : k ≤ C3
  t1 : C1 ≤ maxLen
  t2 : C2 ≤ maxLen
  t3 : C3 ≤ maxLen
  ne : y1 < y2
  b1 : w0.heap.size ≤ y1
  num : 0 < k → ∃ g, d = some ⟨g, 0, none⟩ ∧ y2 < g ∧ RowV w g C3 28 (u64s ls)
  bel : Below w0.heap.size w0 w
section
variable {w0 w w' : World} {y1 y2 m C1 C2 k C3 : Nat} {a b d d0 : Option Addr} {fs gs : List Fld} {ls : List Nat}
theorem Cp.below (h : Cp w0 w y1 y2 d m C1 C2 k C3 fs gs ls) (hb : Below w.heap.size w w') : Cp w0 w' y1 y2 d m C1 C2 k C3 fs gs ls :=
  { h with
    r1 := h.r1.below hb
    r2 := h.r2.below hb
    num := fun h0 => by obtain ⟨g, e, hg, hr⟩ := h.num h0; exact ⟨g, e, hg, hr.below hb⟩
    bel := bw h.bel hb }
theorem Cp.fresh (h : Cp w0 w y1 y2 d m C1 C2 k C3 fs gs ls) {gx : Nat} (hg : w.heap.size ≤ gx) : gx ≠ y1 ∧ gx ≠ y2 ∧ (0 < k → d ≠ some ⟨gx, 0, none⟩) ∧ w0.heap.size ≤ gx := by
  have h1 := h.r1.lt
  have h2 := h.r2.lt
  refine ⟨by omega, by omega, fun h0 e => ?_, Nat.le_trans h.bel.size hg⟩
  obtain ⟨g, e', _, hr⟩ := h.num h0
  rw [e] at e'
  injection e' with e'
  injection e' with e' _
  have := hr.lt
  omega
theorem Cp.other (h : Cp w0 w y1 y2 d m C1 C2 k C3 fs gs ls) {b i : Nat} (v : Value) (n1 : b ≠ y1) (n2 : b ≠ y2) (n3 : 0 < k → d ≠ some ⟨b, 0, none⟩) (hb : w0.heap.size ≤ b) : Cp w0 (w.setCell ⟨b, i, none⟩ v) y1 y2 d m C1 C2 k C3 fs gs ls :=
  { h with
    r1 := h.r1.other n1
    r2 := h.r2.other n2
    num := fun h0 => by
      obtain ⟨g, e, hg, hr⟩ := h.num h0
      exact ⟨g, e, hg, hr.other fun e' => n3 h0 (by rw [e, e'])⟩
    bel := h.bel.setCell (p := ⟨b, i, none⟩) hb v }
theorem Cp.set1 (h : Cp w0 w y1 y2 d m C1 C2 k C3 fs gs ls) {p : Nat} (hp : p < m) (f : Fld) : Cp w0 (w.setCell ⟨y1, p, none⟩ f.v) y1 y2 d m C1 C2 k C3 (fs.set p f) gs ls :=
  { h with
    r1 := by rw [List.map_set]; exact h.r1.set (by rw [List.length_map, h.l1]; exact hp) _
    r2 := h.r2.other (by have := h.ne; omega)
    l1 := by rw [List.length_set]; exact h.l1
    num := fun h0 => by
      obtain ⟨g, e, hg, hr⟩ := h.num h0
      exact ⟨g, e, hg, hr.other (by have := h.ne; omega)⟩
    bel := h.bel.setCell (p := ⟨y1, p, none⟩) h.b1 _ }
theorem Cp.set2 (h : Cp w0 w y1 y2 d m C1 C2 k C3 fs gs ls) {p : Nat} (hp : p < m) (f : Fld) : Cp w0 (w.setCell ⟨y2, p, none⟩ f.v) y1 y2 d m C1 C2 k C3 fs (gs.set p f) ls :=
  { h with
    r2 := by rw [List.map_set]; exact h.r2.set (by rw [List.length_map, h.l2]; exact hp) _
    r1 := h.r1.other (by have := h.ne; omega)
    l2 := by rw [List.length_set]; exact h.l2
    num := fun h0 => by
      obtain ⟨g, e, hg, hr⟩ := h.num h0
      exact ⟨g, e, hg, hr.other (by omega)⟩
    bel := h.bel.setCell (p := ⟨y2, p, none⟩) (by have := h.b1; have := h.ne; show _ ≤ y2; omega) _ }
theorem Cp.set3 {g : Nat} (h : Cp w0 w y1 y2 (some ⟨g, 0, none⟩) m C1 C2 k C3 fs gs ls) {p : Nat} (hp : p < k) (x : Nat) : Cp w0 (w.setCell ⟨g, p, none⟩ (.int .u64 (x : Int))) y1 y2 (some ⟨g, 0, none⟩) m C1 C2 k C3 fs gs (ls.set p x) := by
  obtain ⟨g', e, hg, hr⟩ := h.num (by omega)
  injection e with e
  injection e with e _
  subst e
  exact { h with
    r2 := h.r2.other (by omega)
    r1 := h.r1.other (by have := h.ne; omega)
    l3 := by rw [List.length_set]; exact h.l3
    num := fun h0 => ⟨g, rfl, hg, by rw [u64s, List.map_set]; exact hr.set (by rw [u64s, List.length_map, h.l3]; exact hp) _⟩
    bel := h.bel.setCell (p := ⟨g, p, none⟩) (by have := h.b1; have := h.ne; show _ ≤ g; omega) _ }
theorem Cp.node {lv : Nat} (h : Cp w0 w y1 y2 d m C1 C2 k C3 fs gs ls) (ok1 : ∀ f ∈ fs, FldOk w f) (ok2 : ∀ f ∈ gs, FldOk w f) (hm : m ≤ 200) (h0 : 0 < m) (kb : total fs ≤ 20010) (vb : total gs ≤ 20010) (lb : ∀ x ∈ ls, x ≤ 2199023255552) (lv0 : lv = 0 → k = 0) (lv1 : 0 < lv → k = m) (lv2 : lv ≤ 255) :
    NodeM w (some ⟨y1, 0, none⟩) (some ⟨y2, 0, none⟩) d m C1 C2 k C3 fs gs ls lv :=
  ⟨flds_copy h.r1 h.l1 h.c1 h.t1 ok1, flds_copy h.r2 h.l2 h.c2 h.t2 ok2, hm, h0, kb, vb, h.l3, h.c3, h.t3, fun hl => by
    obtain ⟨g, e, _, hr⟩ := h.num (by rw [← h.l3]; exact hl)
    rw [e]
    exact nums_copy hr hl, lb, lv0, lv1, lv2⟩
/-- Two nodes whose messages differ. -/
structure Tw (w0 w : World) (a b d : Option Addr) (m c c2 k ck : Nat) (fs gs : List Fld) (ls : List Nat) (lv : Nat) (y1 y2 : Nat) (d3 : Option Addr) (C1 C2 C3 : Nat) (fs' gs' : List Fld) (ls' : List Nat) (lv' : Nat) : Prop where
  n1 : NodeM w a b d m c c2 k ck fs gs ls lv
  n2 : NodeM w (some ⟨y1, 0, none⟩) (some ⟨y2, 0, none⟩) d3 m C1 C2 k C3 fs' gs' ls' lv'
  ne : msgMap fs gs ls m lv ≠ msgMap fs' gs' ls' m lv'
  bel : Below w0.heap.size w0 w
theorem set_ok {w0 w : World} {fs : List Fld} {f : Fld} {p : Nat} (h : ∀ f ∈ fs, FldOk w0 f) (hb : Below w0.heap.size w0 w) (hf : FldOk w f) : ∀ g ∈ fs.set p f, FldOk w g := fun g hg => by
  rcases List.mem_or_eq_of_mem_set hg with hg | rfl
  · exact (h g hg).below hb
  · exact hf
variable {c c2 ck lv : Nat}
theorem tw0 (h : NodeM w0 a b d m c c2 k ck fs gs ls lv) (ok : NodeOk m m k fs gs ls (lv : Int) false) (cp : Cp w0 w y1 y2 d0 m C1 C2 k C3 fs gs ls) {p : Nat} (hp : p < m) {gx cx n : Nat} {xs : List Nat} (hn : n = (fs.getD p nof).n + 1) (hr : RowV w gx cx 5 (bs xs)) (hl : xs.length = n) (hc : n ≤ cx) (ht : cx ≤ maxLen) (hb : ∀ x ∈ xs, x < 256) (hne : gx ≠ y1) :
    Tw w0 (w.setCell ⟨y1, p, none⟩ (.slice (some ⟨gx, 0, none⟩) n cx)) a b d m c c2 k ck fs gs ls lv y1 y2 d0 C1 C2 C3 (fs.set p ⟨some ⟨gx, 0, none⟩, n, cx, xs⟩) gs ls lv := by
  have c1 := cp.set1 hp ⟨some ⟨gx, 0, none⟩, n, cx, xs⟩
  have ht0 := total_set ⟨some ⟨gx, 0, none⟩, n, cx, xs⟩ (show p < fs.length by rw [h.keys.len]; exact hp)
  have hk := ok.kt
  simp only at ht0
  have n2 := c1.node (lv := lv) (set_ok (p := p) h.keys.ok c1.bel ⟨(hr.other (Ne.symm hne)).rb hl hc ht hb, by simp⟩) (fun g hg => (h.vals.ok g hg).below c1.bel) h.hm h.hm0 (by omega) h.vb h.lb h.lv0 h.lv1 h.lv2
  exact ⟨h.below c1.bel, n2, ne_keys h n2 (by omega), c1.bel⟩
theorem tw1 (h : NodeM w0 a b d m c c2 k ck fs gs ls lv) (cp : Cp w0 w y1 y2 d0 m C1 C2 k C3 fs gs ls) {p : Nat} (hp : p < m) {gx cx n x x2 : Nat} {xs : List Nat} (hn : n = (gs.getD p nof).n) (hxs : (gs.getD p nof).xs = x :: xs) (hx : x < 256) (hx2 : x2 = (x + 1) % 256) (hr : RowV w gx cx 5 (bs (x :: xs))) (hc : n ≤ cx) (ht : cx ≤ maxLen) (n1 : gx ≠ y1) (n2 : gx ≠ y2) (n3 : 0 < k → d0 ≠ some ⟨gx, 0, none⟩) (n4 : w0.heap.size ≤ gx) :
    Tw w0 ((w.setCell ⟨y2, p, none⟩ (.slice (some ⟨gx, 0, none⟩) n cx)).setCell ⟨gx, 0, none⟩ (.int .u8 (x2 : Int))) a b d m c c2 k ck fs gs ls lv y1 y2 d0 C1 C2 C3 fs (gs.set p ⟨some ⟨gx, 0, none⟩, n, cx, x2 :: xs⟩) ls lv := by
  have hpl : p < gs.length := by rw [h.vals.len]; exact hp
  have c1 := (cp.set2 hp ⟨some ⟨gx, 0, none⟩, n, cx, x2 :: xs⟩).other (i := 0) (.int .u8 (x2 : Int)) n1 n2 n3 n4
  have ht0 := total_set ⟨some ⟨gx, 0, none⟩, n, cx, x2 :: xs⟩ hpl
  simp only at ht0
  have hg := h.vals.ok _ (getD_mem hpl)
  have hl := hg.1.len
  rw [hxs, List.length_cons] at hl
  have hr1 := (hr.other (b := y2) (i := p) (v := .slice (some ⟨gx, 0, none⟩) n cx) (Ne.symm n2)).set (i := 0) (by simp [bs]) (.int .u8 (x2 : Int))
  have hr2 : RowV ((w.setCell ⟨y2, p, none⟩ (.slice (some ⟨gx, 0, none⟩) n cx)).setCell ⟨gx, 0, none⟩ (.int .u8 (x2 : Int))) gx cx 5 (bs (x2 :: xs)) := hr1
  have hbx : ∀ y ∈ x2 :: xs, y < 256 := fun y hy => by
    rcases List.mem_cons.1 hy with rfl | hy
    · omega
    · exact hg.1.byte y (by rw [hxs]; exact List.mem_cons_of_mem _ hy)
  have n2 := c1.node (lv := lv) (fun g hg => (h.keys.ok g hg).below c1.bel) (set_ok (p := p) h.vals.ok c1.bel ⟨hr2.rb (show (x2 :: xs).length = n by rw [List.length_cons]; omega) hc ht hbx, by simp⟩) h.hm h.hm0 h.kb (by have := h.vb; omega) h.lb h.lv0 h.lv1 h.lv2
  refine ⟨h.below c1.bel, n2, ne_vals h n2 (cat_set_ne ⟨some ⟨gx, 0, none⟩, n, cx, x2 :: xs⟩ h.vals.ok hpl (show (x2 :: xs).length = _ by rw [List.length_cons]; omega) (fun e => ?_)), c1.bel⟩
  rw [hxs] at e
  injection e with e _
  omega
theorem tw2 {g : Nat} (h : NodeM w0 a b d m c c2 k ck fs gs ls lv) (ok : NodeOk m m k fs gs ls (lv : Int) false) (cp : Cp w0 w y1 y2 (some ⟨g, 0, none⟩) m C1 C2 k C3 fs gs ls) {p : Nat} (hp : p < k) (h0 : 0 < lv) (x : Nat) (hx : x = ls.getD p 0 + 1) :
    Tw w0 (w.setCell ⟨g, p, none⟩ (.int .u64 (x : Int))) a b d m c c2 k ck fs gs ls lv y1 y2 (some ⟨g, 0, none⟩) C1 C2 C3 fs gs (ls.set p x) lv := by
  have hpl : p < ls.length := by rw [h.hk]; exact hp
  have c1 := cp.set3 hp x
  have ht0 := sumU_set x hpl
  have hx0 : ls.getD p 0 ≤ 1099511627776 := ok.ls _ (by rw [List.getD_eq_getElem?_getD, List.getElem?_eq_getElem hpl]; exact List.getElem_mem hpl)
  have n2 := c1.node (lv := lv) (fun g hg => (h.keys.ok g hg).below c1.bel) (fun g hg => (h.vals.ok g hg).below c1.bel) h.hm h.hm0 h.kb h.vb (fun y hy => by
    rcases List.mem_or_eq_of_mem_set hy with hy | rfl
    · exact h.lb y hy
    · omega) h.lv0 h.lv1 h.lv2
  exact ⟨h.below c1.bel, n2, ne_cnt h n2 h0 h0 (by omega), c1.bel⟩
theorem tw3 (h : NodeM w0 a b d m c c2 k ck fs gs ls lv) (cp : Cp w0 w y1 y2 d0 m C1 C2 k C3 fs gs ls) (h0 : 0 < lv) (h1 : lv < 255) :
    Tw w0 w a b d m c c2 k ck fs gs ls lv y1 y2 d0 C1 C2 C3 fs gs ls (lv + 1) := by
  have n2 := cp.node (lv := lv + 1) (fun g hg => (h.keys.ok g hg).below cp.bel) (fun g hg => (h.vals.ok g hg).below cp.bel) h.hm h.hm0 h.kb h.vb h.lb (by omega) (fun _ => h.lv1 h0) (by omega)
  exact ⟨h.below cp.bel, n2, ne_lv h n2 (by omega), cp.bel⟩
end

theorem n_total : ∀ {fs : List Fld} {p : Nat}, p < fs.length → (fs.getD p nof).n ≤ total fs
  | [], _, h => by simp at h
  | g :: fs, 0, _ => by simp [total]
  | g :: fs, p + 1, h => by
    have := n_total (fs := fs) (p := p) (by simpa using h)
    simp only [total, List.getD_cons_succ]
    omega
theorem cp_mk {w0 w1 W1 W2 W3 : World} {y1 y2 m C1 C2 k C3 : Nat} {d : Option Addr} {fs gs : List Fld} {ls : List Nat} (h0 : Below w0.heap.size w0 w1) (h1 : Below w1.heap.size w1 W1) (h2 : Below W1.heap.size W1 W2) (h3 : Below W2.heap.size W2 W3)
    (r1 : RowV W1 y1 C1 27 (fs.map Fld.v)) (r2 : RowV W2 y2 C2 27 (gs.map Fld.v)) (l1 : fs.length = m) (l2 : gs.length = m) (l3 : ls.length = k) (c1 : m ≤ C1) (c2 : m ≤ C2) (c3 : k ≤ C3) (t1 : C1 ≤ maxLen) (t2 : C2 ≤ maxLen) (t3 : C3 ≤ maxLen)
    (b1 : w1.heap.size ≤ y1) (b2 : W1.heap.size ≤ y2) (num : 0 < k → ∃ g, d = some ⟨g, 0, none⟩ ∧ W2.heap.size ≤ g ∧ RowV W3 g C3 28 (u64s ls)) : Cp w0 W3 y1 y2 d m C1 C2 k C3 fs gs ls :=
  ⟨(r1.below h2).below h3, r2.below h3, l1, l2, l3, c1, c2, c3, t1, t2, t3, by have := r1.lt; omega, Nat.le_trans h0.size b1, fun hk => by
    obtain ⟨g, e, hg, hr⟩ := num hk
    exact ⟨g, e, by have := r2.lt; omega, hr⟩, bw (bw (bw h0 h1) h2) h3⟩
section
variable {w0 w : World} {y1 y2 m C1 C2 k C3 p : Nat} {d : Option Addr} {fs gs : List Fld} {ls : List Nat}
theorem Cp.ld1 (h : Cp w0 w y1 y2 d m C1 C2 k C3 fs gs ls) (hp : p < m) : w.cell? ⟨y1, p, none⟩ = some (.slice (fs.getD p nof).a (fs.getD p nof).n (fs.getD p nof).c) := by
  have hl : p < fs.length := by rw [h.l1]; exact hp
  rw [h.r1.cell (by rw [List.length_map]; exact hl)]
  simp [List.getD_eq_getElem?_getD, List.getElem?_eq_getElem hl, Fld.v]
theorem Cp.ld2 (h : Cp w0 w y1 y2 d m C1 C2 k C3 fs gs ls) (hp : p < m) : w.cell? ⟨y2, p, none⟩ = some (.slice (gs.getD p nof).a (gs.getD p nof).n (gs.getD p nof).c) := by
  have hl : p < gs.length := by rw [h.l2]; exact hp
  rw [h.r2.cell (by rw [List.length_map]; exact hl)]
  simp [List.getD_eq_getElem?_getD, List.getElem?_eq_getElem hl, Fld.v]
theorem Cp.ld3 {g : Nat} (h : Cp w0 w y1 y2 (some ⟨g, 0, none⟩) m C1 C2 k C3 fs gs ls) (hp : p < k) : w.cell? ⟨g, p, none⟩ = some (.int .u64 ((ls.getD p 0 : Nat) : Int)) ∧ w.frozen? ⟨g, p, none⟩ = false := by
  have hl : p < ls.length := by rw [h.l3]; exact hp
  obtain ⟨g', e, hg, hr⟩ := h.num (by omega)
  injection e with e
  injection e with e _
  subst e
  refine ⟨?_, hr.free⟩
  rw [hr.cell (by rw [u64s, List.length_map]; exact hl)]
  simp [u64s, List.getD_eq_getElem?_getD, List.getElem?_eq_getElem hl]
end
theorem FldOk.src {w W : World} {f : Fld} (h : FldOk w f) (hb : Below w.heap.size w W) : 0 < f.n → ∃ b of, f.a = some ⟨b, of, none⟩ ∧ b < W.heap.size ∧ ∀ j u, (bs f.xs)[j]? = some u → W.cell? ⟨b, of + j, none⟩ = some u := fun h0 => by
  have hl := h.1.len
  obtain ⟨b, o, e, hc⟩ := (h.below hb).1.at_ h0
  refine ⟨b, o, e, World.block_lt_of_cell? _ _ (hc 0 (by omega)), fun j u hj => ?_⟩
  have hjl : j < f.xs.length := by have := (List.getElem?_eq_some_iff.1 hj).1; rwa [bs_length] at this
  rw [hc j hjl, ← hj, bs_get hjl]
theorem FldOk.none_ {w : World} {f : Fld} (h : FldOk w f) : f.a = none → f.c = 0 ∧ f.n = 0 := fun e => by have := h.2 e; have := h.1.le; omega
theorem byte_snoc {xs : List Nat} (h : ∀ x ∈ xs, x < 256) : ∀ x ∈ xs ++ [1], x < 256 := fun x hx => by
  rcases List.mem_append.1 hx with hx | hx
  · exact h x hx
  · rw [List.mem_singleton.1 hx]; decide
theorem getD_set_self {gs : List Fld} {p : Nat} {f : Fld} (h : p < gs.length) : (gs.set p f).getD p nof = f := by simp [List.getD_eq_getElem?_getD, List.getElem?_set_self h]
theorem al (w : World) (o : Obj) : Below w.heap.size w (w.alloc o) := (Below.refl _ _).alloc (Nat.le_refl _) _
end Go.Proofs.Ytegohkgmamnkdaa.Msg
