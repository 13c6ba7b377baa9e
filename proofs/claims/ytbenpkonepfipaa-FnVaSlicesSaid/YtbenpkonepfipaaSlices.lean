/- For any buffer, cuts and number: the part that the program cuts out is the part between the cuts (laws.FnVaSlices returns true and leaves its arguments alone). No condition. -/
import Derived.Test.YtbenpkonepfipaaLawSlices
namespace Go.Proofs.Ytbenpkonepfipaa.slices
open Go.ChangeShapes Go.WideShapes Go.ChangeAt Go.RowKit
open Go.Proofs.Ytbenpkonepfipaa.Mem Go.Proofs.Ytbenpkonepfipaa.LawSlices Go.Proofs.Ytbenpkonepfipaa.Rb
set_option linter.unusedVariables false

theorem own : ownKnob Try.prog.godebug = none := by kernel_rfl
theorem laidOut : laidOutB Try.prog = true := by kernel_rfl
theorem cells5 : Try.prog.cellsOf 5 = 1 := by kernel_rfl
theorem cells35 : Try.prog.cellsOf 35 = 1 := by kernel_rfl

/-- Numbers of sixteen bits that came in. -/
theorem nums_of {w : World} {a : Option Addr} {n c : Nat} {xs : List Int} (h : IsRow .u16 w a n c xs) : (xs.map Int.toNat).length = n ∧ n ≤ c ∧ c ≤ maxLen ∧ (∀ x ∈ xs.map Int.toNat, x < 65536) ∧ Nums w a (xs.map Int.toNat) := by
  obtain ⟨h1, h2, h3, h4, h5⟩ := h
  have hb : ∀ x ∈ xs, 0 ≤ x ∧ x ≤ 65535 := fun x hx => bounds_u16 (h4 x hx)
  refine ⟨by simpa using h1, h2, h3, fun y hy => by obtain ⟨x, hx, rfl⟩ := List.mem_map.1 hy; have := hb x hx; omega, fun hn => ?_⟩
  obtain ⟨b, o, e, hlt, hc⟩ := h5 (by simpa [h1] using hn)
  refine ⟨b, o, e, hlt, fun i hi => ?_⟩
  have hi' : i < xs.length := by simpa using hi
  rw [hc i (by omega)]
  have hx := hb xs[i] (List.getElem_mem hi')
  simp only [List.getD_eq_getElem?_getD, List.getElem?_map, List.getElem?_eq_getElem hi', Option.map_some, Option.getD_some]
  rw [Int.toNat_of_nonneg hx.1]

set_option maxRecDepth 100000 in
theorem lifted (os : Os) (started : os.Started) (H : Type) (enc : TypeId × Value → H) :
    ReturnsInHanded {} Try.checked os 5 .any (Rows.fnVaSlicesSpec.pre6 enc Try.prog Try.f5 Rows.fnVaSlicesRow.domain false) (Rows.fnVaSlicesSpec.post enc Try.prog Try.f5 false true false false) := by
  refine returnsInHanded_of_change (C := Try.checked) own started (by kernel_rfl) Try.func5
    (ChangeSpec.witness6 (enc := enc) (C := Try.checked) false ⟨#[], #[.slice none 0 0, .slice none 0 0, .int .i64 0], []⟩ 8 (by kernel_rfl) (by kernel_rfl) (by kernel_rfl) (by kernel_rfl)) ?_
  intro W base args ds gs before hval0 hW hcnd _
  have hval : ∀ (j : Nat) t v, Try.f5.params[j]? = some t → args[j]? = some v → Value.okWide Try.prog W .any base t v := hval0
  have hW' := hW
  obtain ⟨p, q, hA0, hV, rfl, hfz, hnd⟩ := hW
  have hA : DataW.TrodAll enc Try.prog W 0 (fun _ => true) true Try.f5.params.toList args.toList ds p := hA0
  rw [Try.params5] at hA hval
  obtain ⟨v0, vs0, d0, ds0, p0, q0, hargs, rfl, rfl, h0, r0⟩ := trodAll_cons hA
  obtain ⟨v1, vs1, d1, ds1, p1, q1, rfl, rfl, rfl, h1, r1⟩ := trodAll_cons r0
  obtain ⟨v2, vs2, d2, ds2, p2, q2, rfl, rfl, rfl, h2, r2⟩ := trodAll_cons r1
  obtain ⟨rfl, rfl, rfl⟩ := trodAll_nil r2
  obtain rfl : args = #[v0, v1, v2] := by cases args; simp_all
  obtain ⟨rfl, rfl⟩ := trodVars_none hV
  have lt0 : ∀ x ∈ p0, x.block < W.heap.size := by obtain ⟨m, hm⟩ := h0; exact DataW.trod_lt m _ _ _ hm
  have lt1 : ∀ x ∈ p1, x.block < W.heap.size := by obtain ⟨m, hm⟩ := h1; exact DataW.trod_lt m _ _ _ hm
  have lt2 : ∀ x ∈ p2, x.block < W.heap.size := by obtain ⟨m, hm⟩ := h2; exact DataW.trod_lt m _ _ _ hm
  obtain ⟨a0, n0, c0, x0, e0, w0⟩ := open_row Try.underlying27 Try.underlying5 cells5 (hval 0 27 v0 rfl rfl) h0
  obtain ⟨a1, n1, c1, x1, e1, w1⟩ := open_row Try.underlying34 Try.underlying35 cells35 (hval 1 34 v1 rfl rfl) h1
  obtain ⟨i, e2, rfl, hp2, hlit⟩ := open_int Try.underlying3 (hval 2 3 v2 rfl rfl) h2
  obtain ⟨l1, l2⟩ := bounds_i64 hlit
  obtain ⟨k1, k2, k3, k4, k5⟩ := nums_of w1
  clear hA0 hval0 hval
  have hw := LawSlices.walk W a0 a1 n0 c0 n1 c1 _ _ i (RB.of_row w0) k1 k2 k3 k4 k5 (by omega) (by omega)
  rw [← e0, ← e1, ← e2] at hw
  refine hw.mono fun e W' ⟨he, bel⟩ => ?_
  subst he
  exact ⟨_, rfl, _, _, _, [], _, [], hW', trodAll_mk1 (shut_bool Try.underlying4 _), (trodAll_cons_mk (Below.trod laidOut (by kernel_rfl) (of_decide_eq_true (by kernel_rfl)) h0 bel lt0) (trodAll_cons_mk (Below.trod laidOut (by kernel_rfl) (of_decide_eq_true (by kernel_rfl)) h1 bel lt1) (trodAll_cons_mk (Below.trod laidOut (by kernel_rfl) (of_decide_eq_true (by kernel_rfl)) h2 bel lt2) trodAll_mk0))), rfl, bel.frame _, fun h => by cases h⟩

theorem over : Rows.fnVaSlicesRow.holds Try.pinned (OpenSpec.ofChange Rows.fnVaSlicesSpec) :=
  OpenClaim.holds_of_wide 5 Try.f5 rfl rfl rfl rfl rfl rfl rfl ⟨rfl, rfl, rfl, rfl, rfl⟩ rfl rfl rfl rfl rfl (by kernel_rfl) Try.func5 (by kernel_rfl)
    (of_decide_eq_true (by kernel_rfl)) (by unfold Func.isWrapper; first | (rw [if_pos (by decide +kernel)]; kernel_rfl) | (rw [if_neg (by decide +kernel)]; exact ⟨rfl, rfl⟩))
    (fun os started H enc _ => lifted os started H enc)

/-- The statement. -/
theorem proved : Rows.FnVaSlicesSaid := over
#print axioms proved
end Go.Proofs.Ytbenpkonepfipaa.slices
