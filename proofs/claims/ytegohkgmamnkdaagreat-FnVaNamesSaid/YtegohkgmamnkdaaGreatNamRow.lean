/- The message of a node of a set of names tells its level, its items and what lies below it, for any names, addresses, counts and level (laws.FnVaNames returns true and leaves its arguments alone). No condition. -/
import Derived.Test.YtegohkgmamnkdaaGreatNamLaw
import Derived.Test.YtegohkgmamnkdaaGreatOp
import Derived.Test.YtegohkgmamnkdaaGreatRows
set_option linter.unusedVariables false
namespace Go.Proofs.YtegohkgmamnkdaaGreat.names
open Go.ChangeShapes Go.WideShapes Go.ChangeAt Go.RowKit
open Go.Proofs.YtegohkgmamnkdaaGreat.Mem Go.Proofs.YtegohkgmamnkdaaGreat.Rb Go.Proofs.YtegohkgmamnkdaaGreat.Msg

theorem own : ownKnob Tryz.prog.godebug = none := by kernel_rfl
theorem laidOut : laidOutB Tryz.prog = true := by kernel_rfl

set_option maxRecDepth 100000 in
theorem lifted (os : Os) (started : os.Started) (H : Type) (enc : TypeId × Value → H) :
    ReturnsInHanded {} Tryz.checked os 3 .any (Rows.fnVaNamesSpec.pre6 enc Tryz.prog Tryz.f3 Rows.fnVaNamesRow.domain false) (Rows.fnVaNamesSpec.post enc Tryz.prog Tryz.f3 false true false false) := by
  refine returnsInHanded_of_change (C := Tryz.checked) own started (by kernel_rfl) Tryz.func3
    (ChangeSpec.witness6 (enc := enc) (C := Tryz.checked) false ⟨#[], #[.slice none 0 0, .slice none 0 0, .slice none 0 0, .int .i64 0], []⟩ 8 (by kernel_rfl) (by kernel_rfl) (by kernel_rfl) (by kernel_rfl)) ?_
  intro W base args ds gs before hval0 hW hcnd _
  have hval : ∀ (j : Nat) t v, Tryz.f3.params[j]? = some t → args[j]? = some v → Value.okWide Tryz.prog W .any base t v := hval0
  have hW' := hW
  obtain ⟨p, q, hA0, hV, rfl, hfz, hnd⟩ := hW
  have hA : DataW.TrodAll enc Tryz.prog W 0 (fun _ => true) true Tryz.f3.params.toList args.toList ds p := hA0
  rw [Tryz.params3] at hA hval
  obtain ⟨v0, vs0, d0, ds0, p0, q0, hargs, rfl, rfl, h0, r0⟩ := trodAll_cons hA
  obtain ⟨v1, vs1, d1, ds1, p1, q1, rfl, rfl, rfl, h1, r1⟩ := trodAll_cons r0
  obtain ⟨v2, vs2, d2, ds2, p2, q2, rfl, rfl, rfl, h2, r2⟩ := trodAll_cons r1
  obtain ⟨v3, vs3, d3, ds3, p3, q3, rfl, rfl, rfl, h3, r3⟩ := trodAll_cons r2
  obtain ⟨rfl, rfl, rfl⟩ := trodAll_nil r3
  obtain rfl : args = #[v0, v1, v2, v3] := by cases args; simp_all
  obtain ⟨rfl, rfl⟩ := trodVars_none hV
  have lt0 : ∀ x ∈ p0, x.block < W.heap.size := by obtain ⟨m, hm⟩ := h0; exact DataW.trod_lt m _ _ _ hm
  have lt1 : ∀ x ∈ p1, x.block < W.heap.size := by obtain ⟨m, hm⟩ := h1; exact DataW.trod_lt m _ _ _ hm
  have lt2 : ∀ x ∈ p2, x.block < W.heap.size := by obtain ⟨m, hm⟩ := h2; exact DataW.trod_lt m _ _ _ hm
  have lt3 : ∀ x ∈ p3, x.block < W.heap.size := by obtain ⟨m, hm⟩ := h3; exact DataW.trod_lt m _ _ _ hm
  obtain ⟨a0, n0, c0, fs, e0, w0⟩ := open_flds (hval 0 22 v0 rfl rfl) h0
  obtain ⟨a1, n1, c1, gs, e1, w1⟩ := open_flds (hval 1 22 v1 rfl rfl) h1
  obtain ⟨a2, n2, c2, x2, e2, w2, z2⟩ := open_row2 Tryz.underlying23 Tryz.underlying33 cellsU64 (hval 2 23 v2 rfl rfl) h2
  obtain ⟨i3, e3, _, _, hlit⟩ := open_int Tryz.underlying3 (hval 3 3 v3 rfl rfl) h3
  obtain ⟨l1, l2⟩ := bounds_i64 hlit
  obtain ⟨k1, k2, k3, k4, k5⟩ := nums_of w2
  clear hA0 hval0 hval
  have hw := Msg.namesLaw W a0 a1 a2 n0 c0 n1 c1 n2 c2 fs gs _ i3 w0 w1 k1 k2 k3 k5 k4 (by omega) (by omega)
  rw [← e0, ← e1, ← e2, ← e3] at hw
  refine hw.mono fun e W' ⟨he, bel⟩ => ?_
  subst he
  exact ⟨_, rfl, _, _, _, [], _, [], hW', trodAll_mk1 (shut_bool Tryz.underlying4 _), (trodAll_cons_mk (Below.trod laidOut (by kernel_rfl) (of_decide_eq_true (by kernel_rfl)) h0 bel lt0) (trodAll_cons_mk (Below.trod laidOut (by kernel_rfl) (of_decide_eq_true (by kernel_rfl)) h1 bel lt1) (trodAll_cons_mk (Below.trod laidOut (by kernel_rfl) (of_decide_eq_true (by kernel_rfl)) h2 bel lt2) (trodAll_cons_mk (Below.trod laidOut (by kernel_rfl) (of_decide_eq_true (by kernel_rfl)) h3 bel lt3) trodAll_mk0)))), rfl, bel.frame _, fun h => by cases h⟩

theorem over : Rows.fnVaNamesRow.holds Tryz.pinned (OpenSpec.ofChange Rows.fnVaNamesSpec) :=
  OpenClaim.holds_of_wide 3 Tryz.f3 rfl rfl rfl rfl rfl rfl rfl ⟨rfl, rfl, rfl, rfl, rfl⟩ rfl rfl rfl rfl rfl (by kernel_rfl) Tryz.func3 (by kernel_rfl)
    (of_decide_eq_true (by kernel_rfl)) (by unfold Func.isWrapper; first | (rw [if_pos (by decide +kernel)]; kernel_rfl) | (rw [if_neg (by decide +kernel)]; exact ⟨rfl, rfl⟩))
    (fun os started H enc _ => lifted os started H enc)

/-- The statement. -/
theorem proved : Rows.FnVaNamesSaid := over
#print axioms proved
end Go.Proofs.YtegohkgmamnkdaaGreat.names
