/- For any two hashes: the program's comparisons, and the order of their texts, are the order of their bytes, and the empty one is all zeros (laws.FnVaHashOrder returns true and leaves its arguments alone). No condition. -/
import Derived.Test.YtbenpkonepfipaaLawOrder
namespace Go.Proofs.Ytbenpkonepfipaa.hashOrder
open Go.ChangeShapes Go.WideShapes Go.ChangeAt Go.RowKit
open Go.Proofs.Ytbenpkonepfipaa.Mem Go.Proofs.Ytbenpkonepfipaa.Ord
set_option linter.unusedVariables false

theorem own : ownKnob Try.prog.godebug = none := by kernel_rfl
theorem laidOut : laidOutB Try.prog = true := by kernel_rfl
theorem cells5 : Try.prog.cellsOf 5 = 1 := by kernel_rfl
theorem cells22 : Try.prog.cellsOf 22 = 20 := by kernel_rfl

/-- An array of bytes that came in, as natural numbers. -/
theorem arr_of {xs : List Int} (h : ∀ x ∈ xs, (Lit.int .u8 x).wf = true) : ∃ ys : List Nat, (xs.map (Value.int .u8)).toArray = Arr .u8 ys ∧ ys.length = xs.length ∧ ∀ y ∈ ys, y < 256 := by
  have hb : ∀ x ∈ xs, 0 ≤ x ∧ x ≤ 255 := fun x hx => bounds_u8 (h x hx)
  refine ⟨xs.map Int.toNat, ?_, by simp, ?_⟩
  · unfold Arr
    congr 1
    rw [List.map_map]
    refine List.map_congr_left fun x hx => ?_
    have := hb x hx
    simp only [Function.comp]
    rw [Int.toNat_of_nonneg this.1]
  · intro y hy
    obtain ⟨x, hx, rfl⟩ := List.mem_map.1 hy
    have := hb x hx
    omega

set_option maxRecDepth 100000 in
theorem lifted (os : Os) (started : os.Started) (H : Type) (enc : TypeId × Value → H) :
    ReturnsInHanded {} Try.checked os 3 .any (Rows.fnVaHashOrderSpec.pre6 enc Try.prog Try.f3 Rows.fnVaHashOrderRow.domain false) (Rows.fnVaHashOrderSpec.post enc Try.prog Try.f3 false true false false) := by
  refine returnsInHanded_of_change (C := Try.checked) own started (by kernel_rfl) Try.func3
    (ChangeSpec.witness6 (enc := enc) (C := Try.checked) false ⟨#[], #[.agg (Arr .u8 nought), .agg (Arr .u8 nought)], []⟩ 8 (by kernel_rfl) (by kernel_rfl) (by kernel_rfl) (by kernel_rfl)) ?_
  intro W base args ds gs before hval0 hW hcnd _
  have hval : ∀ (j : Nat) t v, Try.f3.params[j]? = some t → args[j]? = some v → Value.okWide Try.prog W .any base t v := hval0
  have hW' := hW
  obtain ⟨p, q, hA0, hV, rfl, hfz, hnd⟩ := hW
  have hA : DataW.TrodAll enc Try.prog W 0 (fun _ => true) true Try.f3.params.toList args.toList ds p := hA0
  rw [Try.params3] at hA hval
  obtain ⟨v0, vs0, d0, ds0, p0, q0, hargs, rfl, rfl, h0, r0⟩ := trodAll_cons hA
  obtain ⟨v1, vs1, d1, ds1, p1, q1, rfl, rfl, rfl, h1, r1⟩ := trodAll_cons r0
  obtain ⟨rfl, rfl, rfl⟩ := trodAll_nil r1
  obtain rfl : args = #[v0, v1] := by cases args; simp_all
  obtain ⟨rfl, rfl⟩ := trodVars_none hV
  have lt0 : ∀ x ∈ p0, x.block < W.heap.size := by obtain ⟨m, hm⟩ := h0; exact DataW.trod_lt m _ _ _ hm
  have lt1 : ∀ x ∈ p1, x.block < W.heap.size := by obtain ⟨m, hm⟩ := h1; exact DataW.trod_lt m _ _ _ hm
  obtain ⟨a0, e0, n0, w0⟩ := open_array Try.underlying22 Try.underlying5 cells5 (hval 0 22 v0 rfl rfl) cells22 h0
  obtain ⟨a1, e1, n1, w1⟩ := open_array Try.underlying22 Try.underlying5 cells5 (hval 1 22 v1 rfl rfl) cells22 h1
  obtain ⟨x0, f0, m0, b0⟩ := arr_of w0
  obtain ⟨x1, f1, m1, b1⟩ := arr_of w1
  rw [f0] at e0
  rw [f1] at e1
  clear hA0 hval0 hval
  have hw := LawOrder.walk W x0 x1 (by omega) (by omega) b0 b1
  rw [← e0, ← e1] at hw
  refine hw.mono fun e W' ⟨he, bel⟩ => ?_
  subst he
  exact ⟨_, rfl, _, _, _, [], _, [], hW', trodAll_mk1 (shut_bool Try.underlying4 _), (trodAll_cons_mk (Below.trod laidOut (by kernel_rfl) (of_decide_eq_true (by kernel_rfl)) h0 bel lt0) (trodAll_cons_mk (Below.trod laidOut (by kernel_rfl) (of_decide_eq_true (by kernel_rfl)) h1 bel lt1) trodAll_mk0)), rfl, bel.frame _, fun h => by cases h⟩

theorem over : Rows.fnVaHashOrderRow.holds Try.pinned (OpenSpec.ofChange Rows.fnVaHashOrderSpec) :=
  OpenClaim.holds_of_wide 3 Try.f3 rfl rfl rfl rfl rfl rfl rfl ⟨rfl, rfl, rfl, rfl, rfl⟩ rfl rfl rfl rfl rfl (by kernel_rfl) Try.func3 (by kernel_rfl)
    (of_decide_eq_true (by kernel_rfl)) (by unfold Func.isWrapper; first | (rw [if_pos (by decide +kernel)]; kernel_rfl) | (rw [if_neg (by decide +kernel)]; exact ⟨rfl, rfl⟩))
    (fun os started H enc _ => lifted os started H enc)

/-- The statement. -/
theorem proved : Rows.FnVaHashOrderSaid := over
#print axioms proved
end Go.Proofs.Ytbenpkonepfipaa.hashOrder
