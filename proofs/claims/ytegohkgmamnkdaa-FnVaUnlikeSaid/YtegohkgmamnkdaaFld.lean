/- Rows of bytes that came in. No condition. -/
import Derived.Test.YtegohkgmamnkdaaBld10
set_option linter.unusedVariables false
namespace Go.Proofs.Ytegohkgmamnkdaa.Msg
open Go.ChangeShapes Go.WideShapes Go.ChangeAt Go.RowKit
open Go.Proofs.Ytegohkgmamnkdaa.Dig Go.Proofs.Ytegohkgmamnkdaa.Mem Go.Proofs.Ytegohkgmamnkdaa.Rb

/-- A row: where it lies and what it holds. -/
structure Fld where
  a : Option Addr
  n : Nat
  c : Nat
  xs : List Nat
def Fld.v (f : Fld) : Value := .slice f.a f.n f.c
instance : Inhabited Fld := ⟨⟨none, 0, 0, []⟩⟩
def nof : Fld := ⟨none, 0, 0, []⟩
def FldOk (w : World) (f : Fld) : Prop := RB w f.a f.n f.c f.xs ∧ (f.a = none → f.c = 0)
/-- A slice of rows. -/
structure Flds (w : World) (a : Option Addr) (n c : Nat) (fs : List Fld) : Prop where
  len : fs.length = n
  le : n ≤ c
  top : c ≤ maxLen
  ok : ∀ f ∈ fs, FldOk w f
  at_ : 0 < n → ∃ b o, a = some ⟨b, o, none⟩ ∧ b < w.heap.size ∧ ∀ i, i < n → w.cell? ⟨b, o + i, none⟩ = some (fs.getD i nof).v
theorem Flds.below {w w' : World} {a : Option Addr} {n c : Nat} {fs : List Fld} (h : Flds w a n c fs) (hb : Below w.heap.size w w') : Flds w' a n c fs :=
  ⟨h.len, h.le, h.top, fun f hf => ⟨(h.ok f hf).1.below hb (Nat.le_refl _), (h.ok f hf).2⟩, fun hn => by
    obtain ⟨b, o, e, hlt, hc⟩ := h.at_ hn
    exact ⟨b, o, e, Nat.lt_of_lt_of_le hlt hb.size, fun i hi => (hb.cell (p := ⟨b, o + i, none⟩) hlt).trans (hc i hi)⟩⟩
theorem getD_mem {fs : List Fld} {i : Nat} (h : i < fs.length) : fs.getD i nof ∈ fs := by
  rw [List.getD_eq_getElem?_getD, List.getElem?_eq_getElem h]; exact List.getElem_mem h
/-- The bytes of all, one behind another; how many. -/
def cat : List Fld → List Nat
  | [] => []
  | f :: fs => f.xs ++ cat fs
def total : List Fld → Nat
  | [] => 0
  | f :: fs => f.n + total fs
theorem cat_append : ∀ fs gs, cat (fs ++ gs) = cat fs ++ cat gs
  | [], gs => rfl
  | f :: fs, gs => by simp [cat, cat_append fs gs]
theorem total_append : ∀ fs gs, total (fs ++ gs) = total fs + total gs
  | [], gs => by simp [total]
  | f :: fs, gs => by simp [total, total_append fs gs, Nat.add_assoc]
theorem take_more {fs : List Fld} {k : Nat} (h : k < fs.length) : fs.take (k + 1) = fs.take k ++ [fs.getD k nof] := by
  rw [List.take_succ_eq_append_getElem h, List.getD_eq_getElem?_getD, List.getElem?_eq_getElem h]; rfl
theorem total_le {B : Nat} : ∀ {fs : List Fld}, (∀ f ∈ fs, f.n ≤ B) → total fs ≤ B * fs.length
  | [], _ => by simp [total]
  | f :: fs, h => by
    have h1 := h f (List.mem_cons_self ..)
    have h2 := total_le (fs := fs) fun x hx => h x (List.mem_cons_of_mem _ hx)
    simp only [total, List.length_cons, Nat.mul_add, Nat.mul_one]; omega
theorem cat_length {w : World} : ∀ {fs : List Fld}, (∀ f ∈ fs, FldOk w f) → (cat fs).length = total fs
  | [], _ => rfl
  | f :: fs, h => by
    have h1 := (h f (List.mem_cons_self ..)).1.len
    have h2 := cat_length (fs := fs) fun x hx => h x (List.mem_cons_of_mem _ hx)
    simp only [cat, total, List.length_append, h1, h2]
theorem cat_byte {w : World} : ∀ {fs : List Fld}, (∀ f ∈ fs, FldOk w f) → ∀ x ∈ cat fs, x < 256
  | [], _, x, hx => by simp [cat] at hx
  | f :: fs, h, x, hx => by
    rcases List.mem_append.1 hx with hx | hx
    · exact (h f (List.mem_cons_self ..)).1.byte x hx
    · exact cat_byte (fs := fs) (fun y hy => h y (List.mem_cons_of_mem _ hy)) x hx
theorem total_take_le (fs : List Fld) (k : Nat) : total (fs.take k) ≤ total fs := by
  have := total_append (fs.take k) (fs.drop k)
  rw [List.take_append_drop] at this
  omega
theorem total_next {fs : List Fld} {k : Nat} (h : k < fs.length) : total (fs.take k) + (fs.getD k nof).n ≤ total fs := by
  have h1 := total_take_le fs (k + 1)
  rw [take_more h, total_append] at h1
  simpa [total] using h1
end Go.Proofs.Ytegohkgmamnkdaa.Msg
