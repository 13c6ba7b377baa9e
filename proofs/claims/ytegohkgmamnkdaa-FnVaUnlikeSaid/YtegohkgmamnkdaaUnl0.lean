/- Rows copied by append; messages of nodes that differ, plain. No condition. -/
import Derived.Test.YtegohkgmamnkdaaVa
import Derived.Laws.AppendOwnNone
set_option linter.unusedVariables false
namespace Go.Proofs.Ytegohkgmamnkdaa.Msg
open Go.ChangeShapes Go.WideShapes Go.ChangeAt Go.RowKit
open Go.Proofs.Ytegohkgmamnkdaa.Dig Go.Proofs.Ytegohkgmamnkdaa.Mem Go.Proofs.Ytegohkgmamnkdaa.Rb
open Go.Proofs.Ytegohkgmamnkdaa.Cnt (encs enc Nums64)

theorem fits_ok {fs : List Fld} (h : fits fs = true) : ∀ f ∈ fs, f.n ≤ 2147483647 := fun f hf => by
  unfold fits at h
  rw [List.all_eq_true] at h
  exact of_decide_eq_true (h f hf)

/-! ### Messages that differ -/
section
variable {w w' : World} {a b d a' b' d' : Option Addr} {m c c2 k ck m' c' c2' k' ck' : Nat} {fs gs fs' gs' : List Fld} {ls ls' : List Nat} {lv lv' : Nat}
theorem ne_lv (h : NodeM w a b d m c c2 k ck fs gs ls lv) (h' : NodeM w' a' b' d' m' c' c2' k' ck' fs' gs' ls' lv') (hne : lv ≠ lv') : msgMap fs gs ls m lv ≠ msgMap fs' gs' ls' m' lv' := fun he => by
  have e1 : num (msgMap fs gs ls m lv) 1 10 = lv := by
    rcases Nat.eq_zero_or_pos lv with h0 | h0
    · exact ((msgTold h).1 h0).lvl.num
    · exact ((msgTold h).2 h0).lvl.num
  have e2 : num (msgMap fs' gs' ls' m' lv') 1 10 = lv' := by
    rcases Nat.eq_zero_or_pos lv' with h0 | h0
    · exact ((msgTold h').1 h0).lvl.num
    · exact ((msgTold h').2 h0).lvl.num
  rw [he, e2] at e1
  exact hne e1.symm
theorem ne_cnt (h : NodeM w a b d m c c2 k ck fs gs ls lv) (h' : NodeM w' a' b' d' m' c' c2' k' ck' fs' gs' ls' lv') (h0 : 0 < lv) (h0' : 0 < lv') (hne : sumU ls ≠ sumU ls') : msgMap fs gs ls m lv ≠ msgMap fs' gs' ls' m' lv' := fun he => by
  have e1 := ((msgTold h).2 h0).cnt.num
  have e2 := ((msgTold h').2 h0').cnt.num
  rw [he, e2] at e1
  exact hne e1.symm
theorem keysT (h : NodeM w a b d m c c2 k ck fs gs ls lv) : vlen (msgMap fs gs ls m lv) 0 = total fs := by
  have hc := cat_length h.keys.ok
  rcases Nat.eq_zero_or_pos lv with h0 | h0
  · rw [← hc]; exact ((msgTold h).1 h0).keys.len
  · rw [← hc]; exact ((msgTold h).2 h0).keys.len
theorem ne_keys (h : NodeM w a b d m c c2 k ck fs gs ls lv) (h' : NodeM w' a' b' d' m' c' c2' k' ck' fs' gs' ls' lv') (hne : total fs ≠ total fs') : msgMap fs gs ls m lv ≠ msgMap fs' gs' ls' m' lv' := fun he => by
  have e1 := keysT h
  rw [he, keysT h'] at e1
  exact hne e1.symm
theorem valsT (h : NodeM w a b d m c c2 k ck fs gs ls lv) (i : Nat) (hi : i = if lv = 0 then 3 else 7) : vbytes (msgMap fs gs ls m lv) i = cat gs := by
  unfold vbytes
  rcases Nat.eq_zero_or_pos lv with h0 | h0
  · rw [if_pos h0] at hi
    subst hi
    have := ((msgTold h).1 h0).vals
    rw [this.len]; exact this.ys
  · rw [if_neg (by omega)] at hi
    subst hi
    have := ((msgTold h).2 h0).vals
    rw [this.len]; exact this.ys
theorem ne_vals (h : NodeM w a b d m c c2 k ck fs gs ls lv) (h' : NodeM w' a' b' d' m' c' c2' k' ck' fs' gs' ls' lv) (hne : cat gs ≠ cat gs') : msgMap fs gs ls m lv ≠ msgMap fs' gs' ls' m' lv := fun he => by
  have e1 := valsT h _ rfl
  rw [he, valsT h' _ rfl] at e1
  exact hne e1.symm
end
theorem total_set : ∀ {fs : List Fld} {p : Nat} (f : Fld), p < fs.length → total (fs.set p f) + (fs.getD p nof).n = total fs + f.n
  | [], _, _, h => by simp at h
  | g :: fs, 0, f, _ => by simp [total]; omega
  | g :: fs, p + 1, f, h => by
    have := total_set (fs := fs) (p := p) f (by simpa using h)
    simp only [List.set_cons_succ, total, List.getD_cons_succ]
    omega
theorem sumU_set : ∀ {ls : List Nat} {p : Nat} (x : Nat), p < ls.length → sumU (ls.set p x) + ls.getD p 0 = sumU ls + x
  | [], _, _, h => by simp at h
  | g :: fs, 0, f, _ => by simp [sumU]; omega
  | g :: fs, p + 1, f, h => by
    have := sumU_set (ls := fs) (p := p) f (by simpa using h)
    simp only [List.set_cons_succ, sumU, List.getD_cons_succ]
    omega
theorem cat_set_ne {w : World} : ∀ {gs : List Fld} {p : Nat} (f : Fld), (∀ g ∈ gs, FldOk w g) → p < gs.length → f.xs.length = (gs.getD p nof).n → f.xs ≠ (gs.getD p nof).xs → cat gs ≠ cat (gs.set p f)
  | [], _, _, _, h, _, _ => by simp at h
  | g :: gs, 0, f, hok, _, hl, hne => fun he => by
    have h1 := (hok g (List.mem_cons_self ..)).1.len
    simp only [List.getD_cons_zero] at hl hne
    simp only [List.set_cons_zero, cat] at he
    exact hne (List.append_inj_left he (by omega)).symm
  | g :: gs, p + 1, f, hok, h, hl, hne => fun he => by
    simp only [List.getD_cons_succ] at hl hne
    simp only [List.set_cons_succ, cat] at he
    exact cat_set_ne f (fun x hx => hok x (List.mem_cons_of_mem _ hx)) (by simpa using h) hl hne (List.append_cancel_left he)

/-! ### Rows of values -/
/-- A block that holds values from its start on. -/
def RowV (w : World) (g C : Nat) (e : TypeId) (cs : List Value) : Prop := ∃ rest : List Value, cs.length + rest.length = C ∧ w.heap[g]? = some (.cells (cs ++ rest).toArray e (0, 0))
theorem RowV.below {w w' : World} {g C : Nat} {e : TypeId} {cs : List Value} (h : RowV w g C e cs) (hb : Below w.heap.size w w') : RowV w' g C e cs := by
  obtain ⟨rest, h1, h2⟩ := h
  exact ⟨rest, h1, (hb.block g (lt_of_obj h2)).trans h2⟩
theorem RowV.cell {w : World} {g C i : Nat} {e : TypeId} {cs : List Value} (h : RowV w g C e cs) (hi : i < cs.length) : w.cell? ⟨g, i, none⟩ = cs[i]? := by
  obtain ⟨rest, h1, h2⟩ := h
  simp only [World.cell?, h2]
  simp [List.getElem?_append_left hi]
theorem RowV.free {w : World} {g C i : Nat} {e : TypeId} {cs : List Value} (h : RowV w g C e cs) : w.frozen? ⟨g, i, none⟩ = false := by
  obtain ⟨rest, h1, h2⟩ := h
  exact free_of_row h2 i
theorem RowV.set {w : World} {g C i : Nat} {e : TypeId} {cs : List Value} (h : RowV w g C e cs) (hi : i < cs.length) (v : Value) : RowV (w.setCell ⟨g, i, none⟩ v) g C e (cs.set i v) := by
  obtain ⟨rest, h1, h2⟩ := h
  refine ⟨rest, by rw [List.length_set]; exact h1, ?_⟩
  rw [setCell_heap h2, ← List.set_append_left _ _ hi]
  simp
theorem RowV.lt {w : World} {g C : Nat} {e : TypeId} {cs : List Value} (h : RowV w g C e cs) : g < w.heap.size := by obtain ⟨rest, h1, h2⟩ := h; exact lt_of_obj h2
theorem rowV_own {w : World} {base n : Nat} {e : TypeId} {v : Value} {cs : List Value} (h : w.ownsRow base e 1 v n cs) (h0 : 0 < n) : ∃ g C, v = .slice (some ⟨g, 0, none⟩) n C ∧ n ≤ C ∧ C ≤ maxLen ∧ base ≤ g ∧ RowV w g C e cs := by
  rcases h.2 with ⟨h1, h2⟩ | ⟨g, cap, cur, hv, hb, hh, hle, hmax, hsz, htake⟩
  · omega
  · have hl := h.1
    refine ⟨g, cap, hv, hle, hmax, hb, cur.toList.drop n, ?_, ?_⟩
    · rw [List.length_drop]; have := Array.length_toList (xs := cur); simp only [Nat.mul_one] at hsz hl; omega
    · rw [Nat.mul_one] at htake
      rw [hh, ← htake, List.take_append_drop]

section
variable {ops : Array Oper} {rest : List Oper} {o : Oper} {a : Act} {Q : Exit → Act → World → Prop} {w : World}
/-- 'append([]T{}, xs...)': a copy, in a block of its own. -/
theorem append_copy (t e : TypeId) (i : TypeInfo) (z : Value) (ht : Try.prog.underlying t = some (.slice e)) (hi : Try.prog.info? e = some i) (hz : i.zero = some z) (hz1 : i.size = 1) (bytes : Nat) (hz2 : i.bytes = bytes) (hzs : z.cells.size = 1) (hby : bytes ≤ 100)
    (hgd : o.guard = none) (s x : Operand) (ho : o.op = .call { callee := .builtin .append, args := #[s, x], argTypes := #[t, t] })
    (hs : a.eval s = .slice (some ⟨w.heap.size, 0, none⟩) 0 0) (sp : Option Addr) (n c : Nat) (hx : a.eval x = .slice sp n c) (hnc : sp = none → c = 0 ∧ n = 0) (news : List Value) (hl : news.length = n)
    (hsrc : 0 < n → ∃ b of, sp = some ⟨b, of, none⟩ ∧ b < w.heap.size ∧ ∀ j u, news[j]? = some u → w.cell? ⟨b, of + j, none⟩ = some u) (h1 : ∀ u ∈ news, u.oneCell' = true) (hn : n ≤ 2147483647)
    (h : ∀ v' w', Hid (w'.ownsRow w.heap.size e 1 v' n news) → Hid (Below w.heap.size w w') → wpList Try.prog ops Q rest (a.put o.dst v') w') : wpList Try.prog ops Q (o :: rest) a (w.alloc (.cells #[] e)) := by
  have own0 : (w.alloc (.cells #[] e)).ownsRow w.heap.size e 1 (.slice (some ⟨w.heap.size, 0, none⟩) 0 0) 0 [] := World.ownsRow_made w #[] 0 (Nat.le_refl _) (Nat.zero_le _) rfl
  have hB : w.heap.size ≤ (w.alloc (.cells #[] e)).heap.size := by simp
  cases sp with
  | none =>
    obtain ⟨rfl, rfl⟩ := hnc rfl
    obtain rfl : news = [] := List.length_eq_zero_iff.1 hl
    refine wpList_append_own_none hgd s x t ho w.heap.size e i 1 ht hi _ 0 [] hs own0 hx ?_
    exact h _ _ (Lib.hid own0) (Lib.hid ((Below.refl _ _).alloc (Nat.le_refl _) _))
  | some ad =>
    refine wpList_append_own _ hgd s x t ho w.heap.size e i z 1 bytes ht hi hz hz1 hz2 hzs (by decide) _ 0 [] hs own0 ad n c news hx (by omega) (fun j u hj => ?_) h1 (by unfold maxLen; omega) (by rw [Nat.zero_add]; exact Nat.le_trans (Nat.mul_le_mul hn hby) (by decide)) hB ?_
    · have hjl := (List.getElem?_eq_some_iff.1 hj).1
      obtain ⟨b, of, e1, hb, hc⟩ := hsrc (by omega)
      injection e1 with e1
      subst e1
      have := hc j u hj
      rw [show (⟨b, of, none⟩ : Addr).add j = ⟨b, of + j, none⟩ by unfold Addr.add; split <;> simp_all, World.cell?_alloc_lt w _ _ hb]
      exact this
    · intro v' w' h3 h4 _
      rw [Nat.zero_add, List.nil_append] at h3
      exact h v' w' (Lib.hid h3) (Lib.hid (((Below.refl _ _).alloc (Nat.le_refl _) _).grown h4 hB (fun k hk => by simp [Value.ownBlock] at hk; omega)))
end
end Go.Proofs.Ytegohkgmamnkdaa.Msg
