/- A region that draws its order, reads, calls and writes: operations that only read may be taken first; what is left comes up in one order. No condition. -/
import Derived.OrdersHeld
import Derived.Tactics
set_option linter.unusedVariables false
namespace Go.Proofs.YtegohkgmamnkdaaGreat.Rg

/-- Q, but R where the list is done. -/
def Thence (Q : Exit → Act → World → Prop) (R : Act → World → Prop) : Exit → Act → World → Prop
  | .normal, a, w => R a w
  | e, a, w => Q e a w
theorem thence {Q : Exit → Act → World → Prop} {R : Act → World → Prop} {a : Act} {w : World} (h : R a w) : Thence Q R .normal a w := h

section
variable {P : Program} {ops : Array Oper} {Q : Exit → Act → World → Prop} {md : Region.Mode} {S T : World → Prop} {late : Nat → Bool}

/-- What is known behind operation j. -/
def Behind (S T : World → Prop) (late : Nat → Bool) (j : Nat) (w : World) : Prop := if late j then T w else S w
/-- Whatever order is picked, and behind each operation its fact holds: S, but T behind the late ones. -/
def anyK (P : Program) (md : Region.Mode) (ops : Array Oper) (Q : Exit → Act → World → Prop) (S T : World → Prop) (late : Nat → Bool) : Nat → Array Bool → Act → World → Prop
  | 0, up, a, w => Region.ready md ops up = [] ∧ Q .normal a w
  | n + 1, up, a, w => (Region.ready md ops up = [] → Q .normal a w) ∧ ∀ j ∈ Region.ready md ops up, wpOp P ops Q j (fun b x => Behind S T late j x ∧ anyK P md ops Q S T late n (up.setIfInBounds j true) b x) a w
theorem any_of_K : ∀ (n : Nat) (up : Array Bool) (a : Act) (w : World), anyK P md ops Q S T late n up a w → wpAny P md ops Q n up a w
  | 0, _, _, _, h => h
  | n + 1, _, _, _, h => ⟨h.1, fun j hj => wpOp_mono (fun b x k => any_of_K n _ b x k.2) (h.2 j hj)⟩
/-- One that may come up does, and something is left of the count. -/
theorem anyK_at {n j : Nat} {up : Array Bool} {a : Act} {w : World} (h : anyK P md ops Q S T late n up a w) (hj : j ∈ Region.ready md ops up) :
    ∃ m, n = m + 1 ∧ wpOp P ops Q j (fun b x => Behind S T late j x ∧ anyK P md ops Q S T late m (up.setIfInBounds j true) b x) a w := by
  cases n with
  | zero =>
    have e := h.1
    rw [e] at hj
    exact absurd hj List.not_mem_nil
  | succ m => exact ⟨m, rfl, h.2 j hj⟩

/-- Who has not come up and does not wait for i stands apart from it and keeps U. -/
def Clear (md : Region.Mode) (ops : Array Oper) (S T U : World → Prop) (late : Nat → Bool) (i : Nat) (oi : Oper) (up : Array Bool) : Prop :=
  ∀ j oj, ops[j]? = some oj → j ≠ i → up.getD j true = false → (∀ e ∈ oj.after, Region.binds md e = true → e.on ≠ i) → oi.apart ops oj = true ∧ ∀ w, Behind S T late j w → U w
theorem up_self (up : Array Bool) (k : Nat) : (up.setIfInBounds k true).getD k true = true := by
  rw [Array.getD_eq_getD_getElem?, Array.getElem?_setIfInBounds_self]
  split <;> rfl
theorem Clear.on {U : World → Prop} {i : Nat} {oi : Oper} {up : Array Bool} (h : Clear md ops S T U late i oi up) (j : Nat) : Clear md ops S T U late i oi (up.setIfInBounds j true) := fun k ok hk hne hun =>
  h k ok hk hne (by
    by_cases e : j = k
    · rw [← e, up_self] at hun; cases hun
    · rwa [getD_set_ne true e] at hun)
/-- Of two that may come up neither waits for the other. -/
theorem no_wait {i j : Nat} {up : Array Bool} (hi : i ∈ Region.ready md ops up) (hj : j ∈ Region.ready md ops up) : ∃ oj, ops[j]? = some oj ∧ up.getD j true = false ∧ ∀ e ∈ oj.after, Region.binds md e = true → e.on ≠ i := by
  obtain ⟨un, oj, ho, h⟩ := mem_ready.1 hj
  have ui := (mem_ready.1 hi).1
  refine ⟨oj, ho, un, fun e he hb he2 => ?_⟩
  have hd := h e he hb
  rw [he2, Array.getD_eq_getD_getElem?] at hd
  rw [Array.getD_eq_getD_getElem?] at ui
  cases hc : up[i]? with
  | none => rw [hc] at ui; cases ui
  | some x =>
    rw [hc] at ui hd
    exact absurd (hd.symm.trans ui) (by decide)

/-- One that yields its value wherever U holds may be taken first, if whoever could come ahead of it keeps U. -/
theorem anyK_first {U : World → Prop} {i : Nat} {oi : Oper} {v : Value} (hi : ops[i]? = some oi) (hsel : ∀ (j : Nat) (o : Oper) cs b, ops[j]? = some o → o.op ≠ .select cs b)
    (hQ : ∀ c a w, Q (.panic c) (a.put oi.dst v) w → Q (.panic c) a w) (hK : ∀ w, U w → Behind S T late i w) (n : Nat) :
    ∀ (up : Array Bool) (a : Act) (w : World), Clear md ops S T U late i oi up → i ∈ Region.ready md ops up → YieldsIf P ops U oi v a → U w →
      anyK P md ops Q S T late n (up.setIfInBounds i true) (a.put oi.dst v) w → anyK P md ops Q S T late (n + 1) up a w := by
  induction n using Nat.strongRecOn with
  | _ n again =>
    intro up a w hc hr hy hU H
    refine ⟨fun e => absurd hr (by rw [e]; exact List.not_mem_nil), fun j hj => ?_⟩
    by_cases e : j = i
    · rw [e]
      exact hy.wpOp hi hU ⟨hK w hU, H⟩
    · obtain ⟨m, rfl, hw⟩ := anyK_at H (ready_mono hj e)
      obtain ⟨oj, ho, un, hno⟩ := no_wait hr hj
      obtain ⟨hap, keep⟩ := hc j oj ho e un hno
      refine wpOp_mono (fun b x ⟨hy', hb, K⟩ => ⟨hb, again m (Nat.lt_succ_self m) _ b x (hc.on j) (ready_mono hr (Ne.symm e)) hy' (keep x hb) ?_⟩)
        (wpOp_putIf ho hap (fun cs b => hsel i oi cs b hi) (fun cs b => hsel j oj cs b ho) hQ hy hw)
      rwa [Array.setIfInBounds_comm _ _ e]

/-- Whoever is late waits for i, or has come up. -/
def lateWaits (md : Region.Mode) (ops : Array Oper) (listed : Array Bool) (late : Nat → Bool) (i : Nat) : Bool :=
  (List.range ops.size).all fun j => !late j || listed.getD j true || (match ops[j]? with | some o => o.after.any fun e => Region.binds md e && e.on == i | none => true)
theorem lateWaits_spec {listed : Array Bool} {i : Nat} (h : lateWaits md ops listed late i = true) {j : Nat} {oj : Oper} (hj : ops[j]? = some oj) (hun : listed.getD j true = false)
    (hno : ∀ e ∈ oj.after, Region.binds md e = true → e.on ≠ i) : late j = false := by
  have hlt : j < ops.size := (Array.getElem?_eq_some_iff.1 hj).1
  have h1 := List.all_eq_true.1 h j (List.mem_range.2 hlt)
  rw [hj, hun] at h1
  cases hl : late j with
  | false => rfl
  | true =>
    simp only [hl, Bool.not_true, Bool.false_or] at h1
    obtain ⟨e, he, hb⟩ := Array.any_eq_true'.1 h1
    simp only [Bool.and_eq_true, beq_iff_eq] at hb
    exact absurd hb.2 (hno e he hb.1)

theorem of_drop {i : Nat} {o : Oper} {rest : List Oper} (h : ops.toList.drop i = o :: rest) : ops[i]? = some o := by
  have := congrArg (fun l => l[0]?) h
  simp only [List.getElem?_drop, Nat.add_zero, List.getElem?_cons_zero, Array.getElem?_toList] at this
  exact this
/-- Take i first: a reader of what S says; the late ones wait for it. -/
theorem takeS {i : Nat} {oi : Oper} {v : Value} {fuel : Nat} {listed : Array Bool} {a : Act} {w : World} {rest : List Oper} (hd : ops.toList.drop i = oi :: rest)
    (hs : Region.noSelect ops = true) (hf : Region.free md ops listed i = true) (hr : (Region.ready md ops listed).contains i = true) (hl : late i = false) (hw : lateWaits md ops listed late i = true)
    (hQ : ∀ c a w, Q (.panic c) (a.put oi.dst v) w → Q (.panic c) a w) (hy : YieldsIf P ops S oi v a) (hS : S w)
    (h : anyK P md ops Q S T late fuel (listed.setIfInBounds i true) (a.put oi.dst v) w) : anyK P md ops Q S T late (fuel + 1) listed a w :=
  anyK_first (U := S) (of_drop hd) (Region.noSelect_spec hs) hQ (fun w hw => by unfold Behind; rw [hl]; exact hw) fuel listed a w
    (fun j oj hj hji hun hno => ⟨Region.free_spec (of_drop hd) hf j oj hj hji hun hno, fun w hw' => by unfold Behind at hw'; rw [lateWaits_spec hw hj hun hno] at hw'; exact hw'⟩) (by simpa using hr) hy hS h
/-- Take i first: a reader of what T says; i counts among the late. -/
theorem takeT {i : Nat} {oi : Oper} {v : Value} {fuel : Nat} {listed : Array Bool} {a : Act} {w : World} {rest : List Oper} (hd : ops.toList.drop i = oi :: rest)
    (hs : Region.noSelect ops = true) (hf : Region.free md ops listed i = true) (hr : (Region.ready md ops listed).contains i = true) (hl : late i = true) (hST : ∀ w, S w → T w)
    (hQ : ∀ c a w, Q (.panic c) (a.put oi.dst v) w → Q (.panic c) a w) (hy : YieldsIf P ops T oi v a) (hS : T w)
    (h : anyK P md ops Q S T late fuel (listed.setIfInBounds i true) (a.put oi.dst v) w) : anyK P md ops Q S T late (fuel + 1) listed a w :=
  anyK_first (U := T) (of_drop hd) (Region.noSelect_spec hs) hQ (fun w hw => by unfold Behind; rw [hl]; exact hw) fuel listed a w
    (fun j oj hj hji hun hno => ⟨Region.free_spec (of_drop hd) hf j oj hj hji hun hno, fun w hw' => by unfold Behind at hw'; split at hw'; exact hw'; exact hST _ hw'⟩) (by simpa using hr) hy hS h
/-- One alone may come up. -/
theorem oneUp {i : Nat} {o : Oper} {fuel : Nat} {listed : Array Bool} {a : Act} {w : World} {rest : List Oper} (hd : ops.toList.drop i = o :: rest) (hr : Region.ready md ops listed = [i])
    (h : wpList P ops (Thence Q fun a' w' => Behind S T late i w' ∧ anyK P md ops Q S T late fuel (listed.setIfInBounds i true) a' w') [o] a w) : anyK P md ops Q S T late (fuel + 1) listed a w := by
  have hi := of_drop hd
  refine ⟨fun h0 => (by rw [hr] at h0; cases h0), fun j hj => ?_⟩
  rw [hr] at hj
  obtain rfl : j = i := by simpa using hj
  unfold wpOp
  simp only [hi]
  unfold wpList at h
  split at h
  · rename_i hw
    rw [if_pos hw]
    refine h.imp (fun h => ?_) (fun h => ⟨h.1, h.2⟩)
    unfold Oper.wp at h ⊢
    generalize (execOp a.eval o).run P w = r at h ⊢
    cases r with
    | ok n w' => cases n <;> exact h
    | halt x w' => cases x <;> exact h
  · rename_i hw
    rw [if_neg hw]
    exact h
theorem oneS {i : Nat} {o : Oper} {fuel : Nat} {listed : Array Bool} {a : Act} {w : World} {rest : List Oper} (hd : ops.toList.drop i = o :: rest) (hr : Region.ready md ops listed = [i]) (hl : late i = false)
    (h : wpList P ops (Thence Q fun a' w' => S w' ∧ anyK P md ops Q S T late fuel (listed.setIfInBounds i true) a' w') [o] a w) : anyK P md ops Q S T late (fuel + 1) listed a w :=
  oneUp hd hr (by unfold Behind; rw [hl]; exact h)
theorem oneT {i : Nat} {o : Oper} {fuel : Nat} {listed : Array Bool} {a : Act} {w : World} {rest : List Oper} (hd : ops.toList.drop i = o :: rest) (hr : Region.ready md ops listed = [i]) (hl : late i = true)
    (h : wpList P ops (Thence Q fun a' w' => T w' ∧ anyK P md ops Q S T late fuel (listed.setIfInBounds i true) a' w') [o] a w) : anyK P md ops Q S T late (fuel + 1) listed a w :=
  oneUp hd hr (by unfold Behind; rw [hl]; exact h)
/-- All have come up. -/
theorem allUp {listed : Array Bool} {a : Act} {w : World} (hr : Region.ready md ops listed = []) (h : Q .normal a w) : ∀ fuel, anyK P md ops Q S T late fuel listed a w
  | 0 => ⟨hr, h⟩
  | _ + 1 => ⟨fun _ => h, by rw [hr]; simp⟩
/-- Q, but nothing panics. -/
def NoP (Q : Exit → Act → World → Prop) : Exit → Act → World → Prop
  | .panic _, _, _ => False
  | e, a, w => Q e a w
theorem nop {a : Act} {w : World} (h : Q .normal a w) : NoP Q .normal a w := h
theorem noPanic {id : Nat} {b : Bool} {a : Act} {w : World} (h : (Code.region id ops b).wp P (NoP Q) a w) : (Code.region id ops b).wp P Q a w :=
  Code.wp_mono (fun e a w h => by cases e <;> first | exact h | exact (h : False).elim) h
/-- The beginning. -/
theorem regionK {id : Nat} {a : Act} {w : World} (S T : World → Prop) (late : Nat → Bool) (n : Nat) (L : Array Bool) (hm : P.follows .mixedOrders = true) (hn : ops.size = n) (hL : Array.replicate n false = L)
    (h : anyK P .any ops Q S T late n L a w.drew) : (Code.region id ops true).wp P Q a w := by
  subst hn
  subst hL
  exact wp_region_any hm (any_of_K _ _ _ _ h)
end
end Go.Proofs.YtegohkgmamnkdaaGreat.Rg
