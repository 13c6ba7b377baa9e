/- A builder of messages makes ready for what comes (Prep), walked. Condition: it grows once at most. -/
import Derived.Test.YtegohkgmamnkdaaGreatBld4
import Derived.Laws.DeepNot64
set_option linter.unusedVariables false
namespace Go.Proofs.YtegohkgmamnkdaaGreat.Msg
open Go.ChangeShapes Go.WideShapes Go.ChangeAt Go.RowKit
open Go.Proofs.YtegohkgmamnkdaaGreat.Dig Go.Proofs.YtegohkgmamnkdaaGreat.Mem Go.Proofs.YtegohkgmamnkdaaGreat.Rb

/-- Zeros that lead to a place that sz divides. -/
def padOf (sz n : Nat) : Nat := (sz - n % sz) % sz
/-- A builder of the call's own, in the blocks from w0's size on; r places are free; the blocks of K are others, of the call's own too, and hold what they hold. -/
structure BxG (w0 w : World) (B N0 r : Nat) (K : List (Nat × Obj)) (xs : List Nat) (s : St) (g N C H : Nat) : Prop where
  bd : Bd w B g N C H xs s
  nn : N = N0 ∧ C = N0 ∨ N = N0 * 2
  room : r ≤ H
  bel : Below w0.heap.size w0 w
  hB : w0.heap.size ≤ B
  hg : w0.heap.size ≤ g
  keep : ∀ p ∈ K, w.heap[p.1]? = some p.2 ∧ p.1 ≠ B ∧ p.1 ≠ g ∧ w0.heap.size ≤ p.1
def Bx (w0 w : World) (B N0 r : Nat) (K : List (Nat × Obj)) (xs : List Nat) (s : St) : Prop := ∃ g N C H, BxG w0 w B N0 r K xs s g N C H

theorem lt_of_obj {w : World} {k : Nat} {o : Obj} (h : w.heap[k]? = some o) : k < w.heap.size := by
  rcases Nat.lt_or_ge k w.heap.size with h' | h'
  · exact h'
  · rw [Array.getElem?_eq_none h'] at h; cases h
section
variable {w0 w w' : World} {B N0 r r' : Nat} {K : List (Nat × Obj)} {xs xs' : List Nat} {s s' : St} {g N C H H' : Nat}
theorem BxG.step (h : BxG w0 w B N0 r K xs s g N C H) (hb : Bd w' B g N C H' xs' s') (hw : Wr [B, g] w w') (hr : r' ≤ H') : BxG w0 w' B N0 r' K xs' s' g N C H' :=
  ⟨hb, h.nn, hr, h.bel.trans (hw.below (by simp; exact ⟨h.hB, h.hg⟩) h.bel.size), h.hB, h.hg, fun p hp => by
    obtain ⟨h1, h2, h3, h4⟩ := h.keep p hp
    exact ⟨(hw.block p.1 (lt_of_obj h1) (by simp [h2, h3])).trans h1, h2, h3, h4⟩⟩
theorem BxG.drewN (h : BxG w0 w B N0 r K xs s g N C H) (m : Nat) : BxG w0 (w.drewN m) B N0 r K xs s g N C H :=
  h.step (h.bd.drewN m) ((Wr.refl _ _).drewN m) h.room
theorem BxG.less (h : BxG w0 w B N0 r K xs s g N C H) (hr : r' ≤ r) : BxG w0 w B N0 r' K xs s g N C H := ⟨h.bd, h.nn, Nat.le_trans hr h.room, h.bel, h.hB, h.hg, h.keep⟩
end

theorem ofInt_neg (x : Nat) (hx : x ≤ 10000000) (h0 : 0 < x) : (BitVec.ofInt 64 (-(x : Int))).toNat = 18446744073709551616 - x := by
  rw [BitVec.toNat_ofInt]
  omega
theorem and_pad (x sz : Nat) (hx : x ≤ 10000000) (hs : sz = 1 ∨ sz = 2 ∨ sz = 4 ∨ sz = 8) (M : Int) (hM : M = (sz : Int) - 1) : bits .and .i64 (-(x : Int)) M = ((padOf sz x : Nat) : Int) := by
  subst hM
  show IntKind.i64.wrap ((BitVec.ofInt 64 (-(x : Int)) &&& BitVec.ofInt 64 ((sz : Int) - 1)).toNat : Int) = _
  rw [BitVec.toNat_and]
  have hv : (BitVec.ofInt 64 (-(x : Int))).toNat % sz = padOf sz x := by
    rcases Nat.eq_zero_or_pos x with h0 | h0
    · subst h0
      rcases hs with rfl | rfl | rfl | rfl <;> rfl
    · rw [ofInt_neg x hx h0]
      unfold padOf
      rcases hs with rfl | rfl | rfl | rfl <;> omega
  have he : (BitVec.ofInt 64 ((sz : Int) - 1)).toNat = sz - 1 := by rcases hs with rfl | rfl | rfl | rfl <;> rfl
  rw [he]
  have ha : (BitVec.ofInt 64 (-(x : Int))).toNat &&& (sz - 1) = padOf sz x := by
    rw [← hv]
    rcases hs with rfl | rfl | rfl | rfl
    · exact Nat.and_two_pow_sub_one_eq_mod _ 0
    · exact Nat.and_two_pow_sub_one_eq_mod _ 1
    · exact Nat.and_two_pow_sub_one_eq_mod _ 2
    · exact Nat.and_two_pow_sub_one_eq_mod _ 3
  rw [ha]
  have : padOf sz x < 8 := by unfold padOf; rcases hs with rfl | rfl | rfl | rfl <;> omega
  simp [IntKind.wrap, IntKind.bits, IntKind.signed]
  omega
end Go.Proofs.YtegohkgmamnkdaaGreat.Msg
