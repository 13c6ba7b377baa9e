/- For any rows of bytes: the tuple that the program makes of them has their bytes, where each but the first begins, and their number; its parts are they, those of no bytes null, and its copy is the same (laws.FnVaTuple returns true and leaves its argument alone). No condition. -/
import Derived.Test.YtgogeonbamheoaaLawTuple
namespace Go.Proofs.Ytgogeonbamheoaa.tuple
open Go.ChangeShapes Go.WideShapes Go.ChangeAt Go.RowKit
open Go.Proofs.Ytgogeonbamheoaa.Mem Go.Proofs.Ytgogeonbamheoaa.Tri Go.Proofs.Ytgogeonbamheoaa.Rb Go.Proofs.Ytgogeonbamheoaa.Tup
set_option linter.unusedVariables false

theorem own : ownKnob Try.prog.godebug = none := by kernel_rfl
theorem laidOut : laidOutB Try.prog = true := by kernel_rfl
theorem cells5 : Try.prog.cellsOf 5 = 1 := by kernel_rfl

section
variable {H : Type} {enc : TypeId × Value → H} {P : Program} {w : World} {base b0 : Nat} {spare : Nat → Bool} {held : Bool} {t e : TypeId} {v : Value} {d : DataW H} {p : List MemPlace}

theorem cells22 : Try.prog.cellsOf 22 = 1 := by kernel_rfl
theorem open_flds {v : Value} (ho : Value.okWide Try.prog w .any b0 30 v) (h : DataW.Trod enc Try.prog w base (fun _ => true) held 30 v d p) : ∃ a n c fs, v = .slice a n c ∧ Flds w a n c fs := by
  obtain ⟨a, n, c, rfl⟩ := okWide_slice Try.underlying30 ho
  obtain ⟨fuel, hf⟩ := h
  rcases Deep.open_int_rows (k := .u8) Try.underlying30 Try.underlying22 Try.underlying5 cells22 cells5 hf with ⟨hcs, _⟩ | ⟨ad, len, cap, A, L, C, Z, hcs, hbase, hl, hm, _, hcell⟩
  · simp [Value.cells] at hcs
    obtain ⟨rfl, rfl, rfl⟩ := hcs
    exact ⟨none, 0, 0, [], rfl, rfl, Nat.le_refl _, Nat.zero_le _, by simp, fun h => absurd h (by omega)⟩
  · simp [Value.cells] at hcs
    obtain ⟨rfl, rfl, rfl⟩ := hcs
    refine ⟨_, _, _, (List.range n).map fun r => ⟨A r, L r, C r, ((Z r).take (L r)).map Int.toNat⟩, rfl, ?_⟩
    have spot : ∀ {x : Addr} {v : Value}, w.cell? (x.add 0) = some v → x = ⟨x.block, x.off, none⟩ := fun {x v} h0 => by
      obtain ⟨b, o, s⟩ := x
      have : s = none := by simpa [Addr.add] using World.cell?_spot h0
      subst this
      rfl
    have plus : ∀ (b o i : Nat), (⟨b, o, none⟩ : Addr).add i = ⟨b, o + i, none⟩ := fun b o i => by
      unfold Addr.add
      by_cases h00 : i = 0
      · subst h00; simp
      · simp [h00]
    refine ⟨by simp, hl, hm, fun f hf => ?_, fun hn => ?_⟩
    · obtain ⟨r, hr, rfl⟩ := List.mem_map.1 hf
      obtain ⟨h1, h2, h3, h4, h5, h6, h7⟩ := hcell r (by have := List.mem_range.1 hr; omega)
      suffices hrow : IsRow .u8 w (A r) (L r) (C r) ((Z r).take (L r)) from ⟨RB.of_row hrow, h6⟩
      refine ⟨by rw [List.length_take]; omega, h2, h3, fun y hy => h5 y (List.mem_of_mem_take hy), fun hn => ?_⟩
      cases hA : A r with
      | none => have := h6 hA; omega
      | some x =>
        obtain ⟨_, hc⟩ := h7 x hA
        have h0 := hc 0 (by omega)
        have hx := spot h0
        refine ⟨x.block, x.off, congrArg some hx, World.block_lt_of_cell? w ⟨x.block, x.off, none⟩ (by rw [← hx]; exact h0), fun i hi => ?_⟩
        have := hc i (by omega)
        rw [hx, plus] at this
        rw [this, List.getD_eq_getElem?_getD, List.getD_eq_getElem?_getD, List.getElem?_take_of_lt hi]
    · obtain ⟨h1, _⟩ := hcell 0 (by omega)
      have hx := spot h1
      refine ⟨ad.block, ad.off, congrArg some hx, World.block_lt_of_cell? w ⟨ad.block, ad.off, none⟩ (by rw [← hx]; exact h1), fun i hi => ?_⟩
      obtain ⟨h1, _⟩ := hcell i (by omega)
      rw [hx, plus] at h1
      rw [h1]
      simp [List.getD_eq_getElem?_getD, hi, Fld.v]
end

set_option maxRecDepth 100000 in
theorem lifted (os : Os) (started : os.Started) (H : Type) (enc : TypeId × Value → H) :
    ReturnsInHanded {} Try.checked os 4 .any (Rows.fnVaTupleSpec.pre6 enc Try.prog Try.f4 Rows.fnVaTupleRow.domain false) (Rows.fnVaTupleSpec.post enc Try.prog Try.f4 false true false false) := by
  refine returnsInHanded_of_change (C := Try.checked) own started (by kernel_rfl) Try.func4
    (ChangeSpec.witness6 (enc := enc) (C := Try.checked) false ⟨#[], #[.slice none 0 0], []⟩ 8 (by kernel_rfl) (by kernel_rfl) (by kernel_rfl) (by kernel_rfl)) ?_
  intro W base args ds gs before hval0 hW hcnd _
  have hval : ∀ (j : Nat) t v, Try.f4.params[j]? = some t → args[j]? = some v → Value.okWide Try.prog W .any base t v := hval0
  have hW' := hW
  obtain ⟨p, q, hA0, hV, rfl, hfz, hnd⟩ := hW
  have hA : DataW.TrodAll enc Try.prog W 0 (fun _ => true) true Try.f4.params.toList args.toList ds p := hA0
  rw [Try.params4] at hA hval
  obtain ⟨v0, vs0, d0, ds0, p0, q0, hargs, rfl, rfl, h0, r0⟩ := trodAll_cons hA
  obtain ⟨rfl, rfl, rfl⟩ := trodAll_nil r0
  obtain rfl : args = #[v0] := by cases args; simp_all
  obtain ⟨rfl, rfl⟩ := trodVars_none hV
  have lt0 : ∀ x ∈ p0, x.block < W.heap.size := by obtain ⟨m, hm⟩ := h0; exact DataW.trod_lt m _ _ _ hm
  obtain ⟨a0, n0, c0, fs, e0, hfs⟩ := open_flds (hval 0 30 v0 rfl rfl) h0
  clear hA0 hval0 hval
  have hw := Tup.walk W a0 n0 c0 fs hfs
  rw [← e0] at hw
  refine hw.mono fun e W' ⟨he, bel⟩ => ?_
  subst he
  exact ⟨_, rfl, _, _, _, [], _, [], hW', trodAll_mk1 (shut_bool Try.underlying4 _), (trodAll_cons_mk (Below.trod laidOut (by kernel_rfl) (of_decide_eq_true (by kernel_rfl)) h0 bel lt0) trodAll_mk0), rfl, bel.frame _, fun h => by cases h⟩

theorem over : Rows.fnVaTupleRow.holds Try.pinned (OpenSpec.ofChange Rows.fnVaTupleSpec) :=
  OpenClaim.holds_of_wide 4 Try.f4 rfl rfl rfl rfl rfl rfl rfl ⟨rfl, rfl, rfl, rfl, rfl⟩ rfl rfl rfl rfl rfl (by kernel_rfl) Try.func4 (by kernel_rfl)
    (of_decide_eq_true (by kernel_rfl)) (by unfold Func.isWrapper; first | (rw [if_pos (by decide +kernel)]; kernel_rfl) | (rw [if_neg (by decide +kernel)]; exact ⟨rfl, rfl⟩))
    (fun os started H enc _ => lifted os started H enc)

/-- The statement. -/
theorem proved : Rows.FnVaTupleSaid := over
#print axioms proved
end Go.Proofs.Ytgogeonbamheoaa.tuple
