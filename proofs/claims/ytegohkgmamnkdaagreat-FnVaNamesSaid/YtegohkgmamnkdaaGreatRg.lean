/- A region that draws its order, reads, calls and writes: operations that only read may be taken first; what is left comes up in one order. No condition. -/
import Derived.OrdersHeld
import Derived.Tactics
set_option linter.unusedVariables false
namespace Go.Proofs.YtegohkgmamnkdaaGreat.Rg

/-- Q, but R where the list is done. -/
def Thence (Q : Exit → Act → World → Prop) (R : Act → World → Prop) : Exit → Act → World → Prop
  | .normal, a, w => R a w
  | e, a, w => Q e a w
theorem thence {Q : Exit → Act → World → Prop} {R : Act → World → Prop} {a : Act} {w : World} (h : R a w) : Thence Q R .normal a w := h

section
variable {P : Program} {ops : Array Oper} {Q : Exit → Act → World → Prop} {md : Region.Mode} {S T : World → Prop} {late : Nat → Bool}

/-- Whatever order is picked, and S holds behind every operation, but T alone behind the late ones. -/
def anyK (P : Program) (md : Region.Mode) (ops : Array Oper) (Q : Exit → Act → World → Prop) (S T : World → Prop) (late : Nat → Bool) : Nat → Array Bool → Act → World → Prop
  | 0, listed, a, w => Region.ready md ops listed = [] ∧ Q .normal a w
  | fuel + 1, listed, a, w =>
    (Region.ready md ops listed = [] → Q .normal a w) ∧
    ∀ i ∈ Region.ready md ops listed, wpOp P ops Q i (fun a' w' => (if late i then T w' else S w') ∧ anyK P md ops Q S T late fuel (listed.setIfInBounds i true) a' w') a w

theorem any_of_K : ∀ (fuel : Nat) (listed : Array Bool) (a : Act) (w : World), anyK P md ops Q S T late fuel listed a w → wpAny P md ops Q fuel listed a w
  | 0, _, _, _, h => h
  | fuel + 1, _, _, _, h => ⟨h.1, fun i hi => wpOp_mono (fun a' w' h' => any_of_K fuel _ a' w' h'.2) (h.2 i hi)⟩

/-- An operation that yields its value in every world that meets U may be taken first, where whatever may come before it keeps U. -/
theorem anyK_first {U : World → Prop} {i : Nat} {oi : Oper} {v : Value} (hi : ops[i]? = some oi) (hsel : ∀ (j : Nat) (o : Oper) cs b, ops[j]? = some o → o.op ≠ .select cs b)
    (hQ : ∀ c a w, Q (.panic c) (a.put oi.dst v) w → Q (.panic c) a w) (hK : ∀ w, U w → (if late i then T w else S w)) :
    ∀ (fuel : Nat) (listed : Array Bool) (a : Act) (w : World),
      (∀ j oj, ops[j]? = some oj → j ≠ i → listed.getD j true = false → (∀ e ∈ oj.after, Region.binds md e = true → e.on ≠ i) → oi.apart ops oj = true ∧ ∀ w, (if late j then T w else S w) → U w) →
      i ∈ Region.ready md ops listed → YieldsIf P ops U oi v a → U w →
      anyK P md ops Q S T late fuel (listed.setIfInBounds i true) (a.put oi.dst v) w → anyK P md ops Q S T late (fuel + 1) listed a w := by
  intro fuel
  induction fuel with
  | zero =>
    intro listed a w _ hr hy hS H
    refine ⟨fun h => (by rw [h] at hr; cases hr), fun j hj => ?_⟩
    by_cases hji : j = i
    · subst hji; exact hy.wpOp hi hS ⟨hK _ hS, H⟩
    · have := ready_mono hj hji
      rw [H.1] at this
      cases this
  | succ fuel ih =>
    intro listed a w hfree hr hy hS H
    refine ⟨fun h => (by rw [h] at hr; cases hr), fun j hj => ?_⟩
    by_cases hji : j = i
    · subst hji; exact hy.wpOp hi hS ⟨hK _ hS, H⟩
    · have h1 := H.2 j (ready_mono hj hji)
      obtain ⟨hjun, oj, hoj, hall⟩ := mem_ready.1 hj
      have hnot : ∀ e ∈ oj.after, Region.binds md e = true → e.on ≠ i := fun e he hb heq => by
        have h1 := hall e he hb
        have h0 := (mem_ready.1 hr).1
        rw [heq] at h1
        rcases Nat.lt_or_ge i listed.size with h' | h'
        · simp [h'] at h0 h1; rw [h0] at h1; cases h1
        · simp [Array.getElem?_eq_none h'] at h1
      obtain ⟨hap, hUj⟩ := hfree j oj hoj hji hjun hnot
      have h2 := wpOp_putIf hoj hap (fun cs b => hsel i oi cs b hi) (fun cs b => hsel j oj cs b hoj) hQ hy h1
      have hfree' : ∀ k ok, ops[k]? = some ok → k ≠ i → (listed.setIfInBounds j true).getD k true = false →
          (∀ e ∈ ok.after, Region.binds md e = true → e.on ≠ i) → oi.apart ops ok = true ∧ ∀ w, (if late k then T w else S w) → U w := fun k ok hk hki hun hno => by
        refine hfree k ok hk hki ?_ hno
        by_cases hjk : j = k
        · subst hjk; exact hjun
        · rw [getD_set_ne true hjk] at hun; exact hun
      refine wpOp_mono (fun a' w' h3 => ⟨h3.2.1, ih (listed.setIfInBounds j true) a' w' hfree' (ready_mono hr (Ne.symm hji)) h3.1 (hUj _ h3.2.1) ?_⟩) h2
      rw [Array.setIfInBounds_comm _ _ hji]
      exact h3.2.2

/-- Whoever is late waits for i, or has come up. -/
def lateWaits (md : Region.Mode) (ops : Array Oper) (listed : Array Bool) (late : Nat → Bool) (i : Nat) : Bool :=
  (List.range ops.size).all fun j => !late j || listed.getD j true || (match ops[j]? with | some o => o.after.any fun e => Region.binds md e && e.on == i | none => true)
theorem lateWaits_spec {listed : Array Bool} {i : Nat} (h : lateWaits md ops listed late i = true) {j : Nat} {oj : Oper} (hj : ops[j]? = some oj) (hun : listed.getD j true = false)
    (hno : ∀ e ∈ oj.after, Region.binds md e = true → e.on ≠ i) : late j = false := by
  have hlt : j < ops.size := (Array.getElem?_eq_some_iff.1 hj).1
  have h1 := List.all_eq_true.1 h j (List.mem_range.2 hlt)
  rw [hj, hun] at h1
  cases hl : late j with
  | false => rfl
  | true =>
    simp only [hl, Bool.not_true, Bool.false_or] at h1
    obtain ⟨e, he, hb⟩ := Array.any_eq_true'.1 h1
    simp only [Bool.and_eq_true, beq_iff_eq] at hb
    exact absurd hb.2 (hno e he hb.1)

theorem of_drop {i : Nat} {o : Oper} {rest : List Oper} (h : ops.toList.drop i = o :: rest) : ops[i]? = some o := by
  have := congrArg (fun l => l[0]?) h
  simp only [List.getElem?_drop, Nat.add_zero, List.getElem?_cons_zero, Array.getElem?_toList] at this
  exact this
/-- Take i first: a reader of what S says; the late ones wait for it. -/
theorem takeS {i : Nat} {oi : Oper} {v : Value} {fuel : Nat} {listed : Array Bool} {a : Act} {w : World} {rest : List Oper} (hd : ops.toList.drop i = oi :: rest)
    (hs : Region.noSelect ops = true) (hf : Region.free md ops listed i = true) (hr : (Region.ready md ops listed).contains i = true) (hl : late i = false) (hw : lateWaits md ops listed late i = true)
    (hQ : ∀ c a w, Q (.panic c) (a.put oi.dst v) w → Q (.panic c) a w) (hy : YieldsIf P ops S oi v a) (hS : S w)
    (h : anyK P md ops Q S T late fuel (listed.setIfInBounds i true) (a.put oi.dst v) w) : anyK P md ops Q S T late (fuel + 1) listed a w :=
  anyK_first (U := S) (of_drop hd) (Region.noSelect_spec hs) hQ (fun w hw => by rw [hl]; exact hw) fuel listed a w
    (fun j oj hj hji hun hno => ⟨Region.free_spec (of_drop hd) hf j oj hj hji hun hno, fun w hw' => by rw [lateWaits_spec hw hj hun hno] at hw'; exact hw'⟩) (by simpa using hr) hy hS h
/-- Take i first: a reader of what T says; i counts among the late. -/
theorem takeT {i : Nat} {oi : Oper} {v : Value} {fuel : Nat} {listed : Array Bool} {a : Act} {w : World} {rest : List Oper} (hd : ops.toList.drop i = oi :: rest)
    (hs : Region.noSelect ops = true) (hf : Region.free md ops listed i = true) (hr : (Region.ready md ops listed).contains i = true) (hl : late i = true) (hST : ∀ w, S w → T w)
    (hQ : ∀ c a w, Q (.panic c) (a.put oi.dst v) w → Q (.panic c) a w) (hy : YieldsIf P ops T oi v a) (hS : T w)
    (h : anyK P md ops Q S T late fuel (listed.setIfInBounds i true) (a.put oi.dst v) w) : anyK P md ops Q S T late (fuel + 1) listed a w :=
  anyK_first (U := T) (of_drop hd) (Region.noSelect_spec hs) hQ (fun w hw => by rw [hl]; exact hw) fuel listed a w
    (fun j oj hj hji hun hno => ⟨Region.free_spec (of_drop hd) hf j oj hj hji hun hno, fun w hw' => by split at hw'; exact hw'; exact hST _ hw'⟩) (by simpa using hr) hy hS h
/-- One alone may come up. -/
theorem oneUp {i : Nat} {o : Oper} {fuel : Nat} {listed : Array Bool} {a : Act} {w : World} {rest : List Oper} (hd : ops.toList.drop i = o :: rest) (hr : Region.ready md ops listed = [i])
    (h : wpList P ops (Thence Q fun a' w' => (if late i then T w' else S w') ∧ anyK P md ops Q S T late fuel (listed.setIfInBounds i true) a' w') [o] a w) : anyK P md ops Q S T late (fuel + 1) listed a w := by
  have hi := of_drop hd
  refine ⟨fun h0 => (by rw [hr] at h0; cases h0), fun j hj => ?_⟩
  rw [hr] at hj
  obtain rfl : j = i := by simpa using hj
  unfold wpOp
  simp only [hi]
  unfold wpList at h
  split at h
  · rename_i hw
    rw [if_pos hw]
    refine h.imp (fun h => ?_) (fun h => ⟨h.1, h.2⟩)
    unfold Oper.wp at h ⊢
    generalize (execOp a.eval o).run P w = r at h ⊢
    cases r with
    | ok n w' => cases n <;> exact h
    | halt x w' => cases x <;> exact h
  · rename_i hw
    rw [if_neg hw]
    exact h
theorem oneS {i : Nat} {o : Oper} {fuel : Nat} {listed : Array Bool} {a : Act} {w : World} {rest : List Oper} (hd : ops.toList.drop i = o :: rest) (hr : Region.ready md ops listed = [i]) (hl : late i = false)
    (h : wpList P ops (Thence Q fun a' w' => S w' ∧ anyK P md ops Q S T late fuel (listed.setIfInBounds i true) a' w') [o] a w) : anyK P md ops Q S T late (fuel + 1) listed a w :=
  oneUp hd hr (by rw [hl]; exact h)
theorem oneT {i : Nat} {o : Oper} {fuel : Nat} {listed : Array Bool} {a : Act} {w : World} {rest : List Oper} (hd : ops.toList.drop i = o :: rest) (hr : Region.ready md ops listed = [i]) (hl : late i = true)
    (h : wpList P ops (Thence Q fun a' w' => T w' ∧ anyK P md ops Q S T late fuel (listed.setIfInBounds i true) a' w') [o] a w) : anyK P md ops Q S T late (fuel + 1) listed a w :=
  oneUp hd hr (by rw [hl]; exact h)
/-- All have come up. -/
theorem allUp {listed : Array Bool} {a : Act} {w : World} (hr : Region.ready md ops listed = []) (h : Q .normal a w) : ∀ fuel, anyK P md ops Q S T late fuel listed a w
  | 0 => ⟨hr, h⟩
  | _ + 1 => ⟨fun _ => h, by rw [hr]; simp⟩
/-- Q, but nothing panics. -/
def NoP (Q : Exit → Act → World → Prop) : Exit → Act → World → Prop
  | .panic _, _, _ => False
  | e, a, w => Q e a w
theorem nop {a : Act} {w : World} (h : Q .normal a w) : NoP Q .normal a w := h
theorem noPanic {id : Nat} {b : Bool} {a : Act} {w : World} (h : (Code.region id ops b).wp P (NoP Q) a w) : (Code.region id ops b).wp P Q a w :=
  Code.wp_mono (fun e a w h => by cases e <;> first | exact h | exact (h : False).elim) h
/-- The beginning. -/
theorem regionK {id : Nat} {a : Act} {w : World} (S T : World → Prop) (late : Nat → Bool) (n : Nat) (L : Array Bool) (hm : P.follows .mixedOrders = true) (hn : ops.size = n) (hL : Array.replicate n false = L)
    (h : anyK P .any ops Q S T late n L a w.drew) : (Code.region id ops true).wp P Q a w := by
  subst hn
  subst hL
  exact wp_region_any hm (any_of_K _ _ _ _ h)
end
end Go.Proofs.YtegohkgmamnkdaaGreat.Rg
