/- What came in, opened: rows of rows, rows of numbers. No condition. -/
import Derived.Test.YtegohkgmamnkdaaGreatImM
import Derived.Deep.Matrix
set_option linter.unusedVariables false
set_option maxRecDepth 100000
namespace Go.Proofs.YtegohkgmamnkdaaGreat.Msg
open Go.ChangeShapes Go.WideShapes Go.ChangeAt Go.RowKit
open Go.Proofs.YtegohkgmamnkdaaGreat.Dig Go.Proofs.YtegohkgmamnkdaaGreat.Mem Go.Proofs.YtegohkgmamnkdaaGreat.Rb
open Go.Proofs.YtegohkgmamnkdaaGreat.Cnt (encs enc Nums64)
theorem cellsU8 : Tryz.prog.cellsOf 5 = 1 := by kernel_rfl
theorem cellsSl : Tryz.prog.cellsOf 26 = 1 := by kernel_rfl
theorem cellsU64 : Tryz.prog.cellsOf 33 = 1 := by kernel_rfl
section
variable {H : Type} {enc : TypeId × Value → H} {w : World} {base b0 : Nat} {spare : Nat → Bool} {held : Bool} {v : Value} {d : DataW H} {p : List MemPlace}
theorem open_flds (ho : Value.okWide Tryz.prog w .any b0 22 v) (h : DataW.Trod enc Tryz.prog w base (fun _ => true) held 22 v d p) : ∃ a n c fs, v = .slice a n c ∧ Flds w a n c fs := by
  obtain ⟨a, n, c, rfl⟩ := okWide_slice Tryz.underlying22 ho
  obtain ⟨fuel, hf⟩ := h
  rcases Deep.open_int_rows (k := .u8) Tryz.underlying22 Tryz.underlying26 Tryz.underlying5 cellsSl cellsU8 hf with ⟨hcs, _⟩ | ⟨ad, len, cap, A, L, C, Z, hcs, hbase, hl, hm, _, hcell⟩
  · simp [Value.cells] at hcs
    obtain ⟨rfl, rfl, rfl⟩ := hcs
    exact ⟨none, 0, 0, [], rfl, rfl, Nat.le_refl _, Nat.zero_le _, by simp, fun h => absurd h (by omega)⟩
  · simp [Value.cells] at hcs
    obtain ⟨rfl, rfl, rfl⟩ := hcs
    refine ⟨_, _, _, (List.range n).map fun r => ⟨A r, L r, C r, ((Z r).take (L r)).map Int.toNat⟩, rfl, ?_⟩
    have spot : ∀ {x : Addr} {v : Value}, w.cell? (x.add 0) = some v → x = ⟨x.block, x.off, none⟩ := fun {x v} h0 => by
      obtain ⟨b, o, s⟩ := x
      have : s = none := by simpa [Addr.add] using World.cell?_spot h0
      subst this
      rfl
    have plus : ∀ (b o i : Nat), (⟨b, o, none⟩ : Addr).add i = ⟨b, o + i, none⟩ := fun b o i => by
      unfold Addr.add
      by_cases h00 : i = 0
      · subst h00; simp
      · simp [h00]
    refine ⟨by simp, hl, hm, fun f hf => ?_, fun hn => ?_⟩
    · obtain ⟨r, hr, rfl⟩ := List.mem_map.1 hf
      obtain ⟨h1, h2, h3, h4, h5, h6, h7⟩ := hcell r (by have := List.mem_range.1 hr; omega)
      suffices hrow : IsRow .u8 w (A r) (L r) (C r) ((Z r).take (L r)) from ⟨RB.of_row hrow, h6⟩
      refine ⟨by rw [List.length_take]; omega, h2, h3, fun y hy => h5 y (List.mem_of_mem_take hy), fun hn => ?_⟩
      cases hA : A r with
      | none => have := h6 hA; omega
      | some x =>
        obtain ⟨_, hc⟩ := h7 x hA
        have h0 := hc 0 (by omega)
        have hx := spot h0
        refine ⟨x.block, x.off, congrArg some hx, World.block_lt_of_cell? w ⟨x.block, x.off, none⟩ (by rw [← hx]; exact h0), fun i hi => ?_⟩
        have := hc i (by omega)
        rw [hx, plus] at this
        rw [this, List.getD_eq_getElem?_getD, List.getD_eq_getElem?_getD, List.getElem?_take_of_lt hi]
    · obtain ⟨h1, _⟩ := hcell 0 (by omega)
      have hx := spot h1
      refine ⟨ad.block, ad.off, congrArg some hx, World.block_lt_of_cell? w ⟨ad.block, ad.off, none⟩ (by rw [← hx]; exact h1), fun i hi => ?_⟩
      obtain ⟨h1, _⟩ := hcell i (by omega)
      rw [hx, plus] at h1
      rw [h1]
      simp [List.getD_eq_getElem?_getD, hi, Fld.v]
theorem open_row2 {k : IntKind} {t e : TypeId} (ht : Tryz.prog.underlying t = some (.slice e)) (he : Tryz.prog.underlying e = some (.int k)) (hc : Tryz.prog.cellsOf e = 1)
    (ho : Value.okWide Tryz.prog w .any b0 t v) (h : DataW.Trod enc Tryz.prog w base spare held t v d p) : ∃ a n c xs, v = .slice a n c ∧ IsRow k w a n c xs ∧ (a = none → c = 0) := by
  obtain ⟨a, n, c, rfl⟩ := okWide_slice ht ho
  obtain ⟨fuel, hf⟩ := h
  rcases open_ints ht he hc hf with ⟨hcs, _⟩ | ⟨x, l, c', zs, hcs, _, hl, hm, hz, _, hcell, hwz⟩
  · simp [Value.cells] at hcs
    obtain ⟨rfl, rfl, rfl⟩ := hcs
    exact ⟨none, 0, 0, [], rfl, ⟨rfl, Nat.le_refl _, Nat.zero_le _, by simp, fun h => absurd h (by omega)⟩, fun _ => rfl⟩
  · simp [Value.cells] at hcs
    obtain ⟨rfl, rfl, rfl⟩ := hcs
    have hzl : n ≤ zs.length := by split at hz <;> omega
    refine ⟨_, _, _, zs.take n, rfl, ⟨by rw [List.length_take]; omega, hl, hm, fun y hy => hwz y (List.mem_of_mem_take hy), fun hn => ?_⟩, fun h => by cases h⟩
    obtain ⟨b, o, spot⟩ := x
    have h0 := hcell 0 (by omega)
    have hspot : spot = none := by simpa [Addr.add] using World.cell?_spot h0
    subst hspot
    refine ⟨b, o, rfl, lt_of_cell h0, fun i hi => ?_⟩
    have hi' := hcell i (by omega)
    rw [List.getD_eq_getElem?_getD, List.getElem?_take_of_lt hi, ← List.getD_eq_getElem?_getD, ← hi']
    unfold Addr.add
    by_cases h00 : i = 0
    · subst h00; simp
    · simp [h00]
end
/-- Numbers of sixty-four bits that came in. -/
theorem nums_of {w : World} {a : Option Addr} {n c : Nat} {xs : List Int} (h : IsRow .u64 w a n c xs) : (xs.map Int.toNat).length = n ∧ n ≤ c ∧ c ≤ maxLen ∧ (∀ x ∈ xs.map Int.toNat, x < 18446744073709551616) ∧ Nums64 w a (xs.map Int.toNat) := by
  obtain ⟨h1, h2, h3, h4, h5⟩ := h
  have hb : ∀ x ∈ xs, 0 ≤ x ∧ x ≤ 18446744073709551615 := fun x hx => bounds_u64 (h4 x hx)
  refine ⟨by simpa using h1, h2, h3, fun y hy => by obtain ⟨x, hx, rfl⟩ := List.mem_map.1 hy; have := hb x hx; omega, fun hn => ?_⟩
  obtain ⟨b, o, e, hlt, hc⟩ := h5 (by simpa [h1] using hn)
  refine ⟨b, o, e, hlt, fun i hi => ?_⟩
  have hi' : i < xs.length := by simpa using hi
  rw [hc i (by omega)]
  have hx := hb xs[i] (List.getElem_mem hi')
  simp only [List.getD_eq_getElem?_getD, List.getElem?_map, List.getElem?_eq_getElem hi', Option.map_some, Option.getD_some]
  rw [Int.toNat_of_nonneg hx.1]
end Go.Proofs.YtegohkgmamnkdaaGreat.Msg
