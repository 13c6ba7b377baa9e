/- For any numbers: the bytes that the program makes of them are each less the one ahead of it, and they are read back (laws.FnVaCounts returns true and leaves its argument alone). No condition. -/
import Derived.Test.YtbenpkonepfipaaLawCounts
namespace Go.Proofs.Ytbenpkonepfipaa.countsRow
open Go.ChangeShapes Go.WideShapes Go.ChangeAt Go.RowKit
open Go.Proofs.Ytbenpkonepfipaa.Mem Go.Proofs.Ytbenpkonepfipaa.Cnt Go.Proofs.Ytbenpkonepfipaa.Rb
set_option linter.unusedVariables false

theorem own : ownKnob Try.prog.godebug = none := by kernel_rfl
theorem laidOut : laidOutB Try.prog = true := by kernel_rfl
theorem cells47 : Try.prog.cellsOf 47 = 1 := by kernel_rfl

/-- Numbers of sixty-four bits that came in. -/
theorem nums_of {w : World} {a : Option Addr} {n c : Nat} {xs : List Int} (h : IsRow .u64 w a n c xs) : (xs.map Int.toNat).length = n ∧ n ≤ c ∧ c ≤ maxLen ∧ (∀ x ∈ xs.map Int.toNat, x < 18446744073709551616) ∧ Nums64 w a (xs.map Int.toNat) := by
  obtain ⟨h1, h2, h3, h4, h5⟩ := h
  have hb : ∀ x ∈ xs, 0 ≤ x ∧ x ≤ 18446744073709551615 := fun x hx => bounds_u64 (h4 x hx)
  refine ⟨by simpa using h1, h2, h3, fun y hy => by obtain ⟨x, hx, rfl⟩ := List.mem_map.1 hy; have := hb x hx; omega, fun hn => ?_⟩
  obtain ⟨b, o, e, hlt, hc⟩ := h5 (by simpa [h1] using hn)
  refine ⟨b, o, e, hlt, fun i hi => ?_⟩
  have hi' : i < xs.length := by simpa using hi
  rw [hc i (by omega)]
  have hx := hb xs[i] (List.getElem_mem hi')
  simp only [List.getD_eq_getElem?_getD, List.getElem?_map, List.getElem?_eq_getElem hi', Option.map_some, Option.getD_some]
  rw [Int.toNat_of_nonneg hx.1]

set_option maxRecDepth 100000 in
theorem lifted (os : Os) (started : os.Started) (H : Type) (enc : TypeId × Value → H) :
    ReturnsInHanded {} Try.checked os 6 .any (Rows.fnVaCountsSpec.pre6 enc Try.prog Try.f6 Rows.fnVaCountsRow.domain false) (Rows.fnVaCountsSpec.post enc Try.prog Try.f6 false true false false) := by
  refine returnsInHanded_of_change (C := Try.checked) own started (by kernel_rfl) Try.func6
    (ChangeSpec.witness6 (enc := enc) (C := Try.checked) false ⟨#[], #[.slice none 0 0], []⟩ 8 (by kernel_rfl) (by kernel_rfl) (by kernel_rfl) (by kernel_rfl)) ?_
  intro W base args ds gs before hval0 hW hcnd _
  have hval : ∀ (j : Nat) t v, Try.f6.params[j]? = some t → args[j]? = some v → Value.okWide Try.prog W .any base t v := hval0
  have hW' := hW
  obtain ⟨p, q, hA0, hV, rfl, hfz, hnd⟩ := hW
  have hA : DataW.TrodAll enc Try.prog W 0 (fun _ => true) true Try.f6.params.toList args.toList ds p := hA0
  rw [Try.params6] at hA hval
  obtain ⟨v0, vs0, d0, ds0, p0, q0, hargs, rfl, rfl, h0, r0⟩ := trodAll_cons hA
  obtain ⟨rfl, rfl, rfl⟩ := trodAll_nil r0
  obtain rfl : args = #[v0] := by cases args; simp_all
  obtain ⟨rfl, rfl⟩ := trodVars_none hV
  have lt0 : ∀ x ∈ p0, x.block < W.heap.size := by obtain ⟨m, hm⟩ := h0; exact DataW.trod_lt m _ _ _ hm
  obtain ⟨a0, n0, c0, x0, e0, w0⟩ := open_row Try.underlying42 Try.underlying47 cells47 (hval 0 42 v0 rfl rfl) h0
  obtain ⟨k1, k2, k3, k4, k5⟩ := nums_of w0
  clear hA0 hval0 hval
  have hw := Cnt.walk W a0 n0 c0 _ k1 k2 k3 k4 k5
  rw [← e0] at hw
  refine hw.mono fun e W' ⟨he, bel⟩ => ?_
  subst he
  exact ⟨_, rfl, _, _, _, [], _, [], hW', trodAll_mk1 (shut_bool Try.underlying4 _), (trodAll_cons_mk (Below.trod laidOut (by kernel_rfl) (of_decide_eq_true (by kernel_rfl)) h0 bel lt0) trodAll_mk0), rfl, bel.frame _, fun h => by cases h⟩

theorem over : Rows.fnVaCountsRow.holds Try.pinned (OpenSpec.ofChange Rows.fnVaCountsSpec) :=
  OpenClaim.holds_of_wide 6 Try.f6 rfl rfl rfl rfl rfl rfl rfl ⟨rfl, rfl, rfl, rfl, rfl⟩ rfl rfl rfl rfl rfl (by kernel_rfl) Try.func6 (by kernel_rfl)
    (of_decide_eq_true (by kernel_rfl)) (by unfold Func.isWrapper; first | (rw [if_pos (by decide +kernel)]; kernel_rfl) | (rw [if_neg (by decide +kernel)]; exact ⟨rfl, rfl⟩))
    (fun os started H enc _ => lifted os started H enc)

/-- The statement. -/
theorem proved : Rows.FnVaCountsSaid := over
#print axioms proved
end Go.Proofs.Ytbenpkonepfipaa.countsRow
