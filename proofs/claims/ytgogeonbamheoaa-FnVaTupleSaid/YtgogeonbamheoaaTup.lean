/- Fields that came in, and what the laws ask of their sizes, walked. No condition. -/
import Derived.Test.YtgogeonbamheoaaLawTriple
import Derived.Deep.Matrix
set_option linter.unusedVariables false
namespace Go.Proofs.Ytgogeonbamheoaa.Tup
open Go.ChangeShapes Go.WideShapes Go.ChangeAt Go.RowKit
open Go.Proofs.Ytgogeonbamheoaa.Dig Go.Proofs.Ytgogeonbamheoaa.Mem Go.Proofs.Ytgogeonbamheoaa.Rb Go.Proofs.Ytgogeonbamheoaa.Sl

/-- A field: where it lies and what it holds. -/
structure Fld where
  a : Option Addr
  n : Nat
  c : Nat
  xs : List Nat
def Fld.v (f : Fld) : Value := .slice f.a f.n f.c
instance : Inhabited Fld := ⟨⟨none, 0, 0, []⟩⟩
def nof : Fld := ⟨none, 0, 0, []⟩
def FldOk (w : World) (f : Fld) : Prop := RB w f.a f.n f.c f.xs ∧ (f.a = none → f.c = 0)
/-- A slice of fields. -/
structure Flds (w : World) (a : Option Addr) (n c : Nat) (fs : List Fld) : Prop where
  len : fs.length = n
  le : n ≤ c
  top : c ≤ maxLen
  ok : ∀ f ∈ fs, FldOk w f
  at_ : 0 < n → ∃ b o, a = some ⟨b, o, none⟩ ∧ b < w.heap.size ∧ ∀ i, i < n → w.cell? ⟨b, o + i, none⟩ = some (fs.getD i nof).v
theorem Flds.below {w w' : World} {a : Option Addr} {n c : Nat} {fs : List Fld} (h : Flds w a n c fs) (hb : Below w.heap.size w w') : Flds w' a n c fs :=
  ⟨h.len, h.le, h.top, fun f hf => ⟨(h.ok f hf).1.below hb (Nat.le_refl _), (h.ok f hf).2⟩, fun hn => by
    obtain ⟨b, o, e, hlt, hc⟩ := h.at_ hn
    exact ⟨b, o, e, Nat.lt_of_lt_of_le hlt hb.size, fun i hi => (hb.cell (p := ⟨b, o + i, none⟩) hlt).trans (hc i hi)⟩⟩
theorem getD_mem {fs : List Fld} {i : Nat} (h : i < fs.length) : fs.getD i nof ∈ fs := by
  rw [List.getD_eq_getElem?_getD, List.getElem?_eq_getElem h]; exact List.getElem_mem h

def fits (fs : List Fld) : Bool := fs.all fun f => decide (f.n ≤ 2147483647)

set_option maxRecDepth 100000 in
theorem zzFits (w : World) (a : Option Addr) (n c : Nat) (fs : List Fld) (h : Flds w a n c fs) :
    Calls Try.prog 8 #[.slice a n c] w fun e w' => e = .returned (.bool (decide (n ≤ 2147483647) && fits fs)) ∧ w = w' := by
  have H := Lib.hid h
  have hc := h.le
  have ht := h.top
  unfold maxLen at ht
  by_cases g1 : 2147483647 < n
  · have q1 : (2147483647 : Int) < (n : Int) := by omega
    rw [decide_eq_false (by omega : ¬ n ≤ 2147483647)]
    clear h
    go_enter Try.func8, Try.ntmps8
    go_wp2_with fail
    go_ret
    exact ⟨rfl, rfl⟩
  · have q1 : ¬ (2147483647 : Int) < (n : Int) := by omega
    rw [decide_eq_true (by omega : n ≤ 2147483647), Bool.true_and]
    clear h
    go_enter Try.func8, Try.ntmps8
    go_wp2_with fail
    go_loopw [10] (fun iv wr => ∃ k : Nat, k ≤ n ∧ iv = .int .i64 (k : Int) ∧ wr = w ∧ ∀ j, j < k → (fs.getD j nof).n ≤ 2147483647) (fun iv _ => n - (intOf iv).toNat)
    case atStart => exact ⟨0, by omega, rfl, rfl, by omega⟩
    case round =>
      obtain ⟨k, hk, rfl, rfl, hall⟩ := hrel
      have HALL := Lib.hid hall
      clear hall
      by_cases hlt : k < n
      · obtain ⟨b, o, ea, hb2, hcell⟩ := H.out.at_ (by omega)
        subst ea
        have gx := hcell k hlt
        obtain ⟨f, hf⟩ : ∃ f, f = fs.getD k nof := ⟨_, rfl⟩
        rw [← hf] at gx
        unfold Fld.v at gx
        have hfm : f ∈ fs := by rw [hf]; exact getD_mem (by rw [H.out.len]; exact hlt)
        have hfl := (H.out.ok f hfm).1.le
        have hft := (H.out.ok f hfm).1.top
        unfold maxLen at hft
        have HF := Lib.hid hf
        have HFM := Lib.hid hfm
        clear hcell hf hfm
        by_cases g2 : 2147483647 < f.n
        · have q2 : (2147483647 : Int) < (f.n : Int) := by omega
          go_wp2_with fail
          go_ret
          have : fits fs = false := by
            unfold fits
            rw [List.all_eq_false]
            exact ⟨f, HFM.out, by simp; omega⟩
          exact ⟨by rw [this]; rfl, rfl⟩
        · have q2 : ¬ (2147483647 : Int) < (f.n : Int) := by omega
          go_wp2_with fail
          go_roundw
          case rel => exact ⟨k + 1, by omega, by go_num, trivial, fun j hj => by
            rcases Nat.lt_or_ge j k with h | h
            · exact HALL.out j h
            · rw [show j = k by omega, ← HF.out]; omega⟩
          case measure => simp [intOf]; omega
      · obtain rfl : k = n := by omega
        go_wp2_with fail
        go_ret
        have : fits fs = true := by
          unfold fits
          rw [List.all_eq_true]
          intro x hx
          obtain ⟨j, hj, rfl⟩ := List.getElem_of_mem hx
          have := HALL.out j (by rw [H.out.len] at hj; exact hj)
          rw [List.getD_eq_getElem?_getD, List.getElem?_eq_getElem hj] at this
          exact decide_eq_true this
        exact ⟨by rw [this]; rfl, rfl⟩

/-- How many bytes there are together. -/
def total : List Fld → Nat
  | [] => 0
  | f :: fs => f.n + total fs
theorem total_append : ∀ fs gs, total (fs ++ gs) = total fs + total gs
  | [], gs => by simp [total]
  | f :: fs, gs => by simp [total, total_append fs gs, Nat.add_assoc]
theorem take_more {fs : List Fld} {k : Nat} (h : k < fs.length) : fs.take (k + 1) = fs.take k ++ [fs.getD k nof] := by
  rw [List.take_succ_eq_append_getElem h, List.getD_eq_getElem?_getD, List.getElem?_eq_getElem h]; rfl
theorem total_le {B : Nat} : ∀ {fs : List Fld}, (∀ f ∈ fs, f.n ≤ B) → total fs ≤ B * fs.length
  | [], _ => by simp [total]
  | f :: fs, h => by
    have h1 := h f (List.mem_cons_self ..)
    have h2 := total_le (fs := fs) fun x hx => h x (List.mem_cons_of_mem _ hx)
    simp only [total, List.length_cons, Nat.mul_add, Nat.mul_one]; omega

set_option maxRecDepth 100000 in
theorem vaSum (w : World) (g : Nat) (a : Option Addr) (n c : Nat) (fs : List Fld) (h : Flds w a n c fs) (hn : n ≤ 200) (hf : ∀ f ∈ fs, f.n ≤ 2147483647) (hg : w.cell? ⟨g, 0, none⟩ = some (.slice a n c)) :
    Calls Try.prog 22 #[.slice (some ⟨g, 0, none⟩) 1 1] w fun e w' => e = .returned (.int .i64 ((total fs : Nat) : Int)) ∧ w = w' := by
  have H := Lib.hid h
  have HF := Lib.hid hf
  have hc := h.le
  have ht := h.top
  unfold maxLen at ht
  clear h hf
  go_enter Try.func22, Try.ntmps22
  go_wp2_with fail
  go_loopw [3, 10] (fun sv iv wr => ∃ i s : Nat, i ≤ 1 ∧ iv = .int .i64 (i : Int) ∧ sv = .int .i64 (s : Int) ∧ w = wr ∧ s = (if i = 0 then 0 else total fs)) (fun _ iv _ => 1 - (intOf iv).toNat)
  case atStart => exact ⟨0, 0, by omega, rfl, rfl, rfl, rfl⟩
  case round =>
    obtain ⟨i, s, hi, rfl, rfl, rfl, hs⟩ := hrel
    by_cases hi0 : i = 0
    · subst hi0
      rw [if_pos rfl] at hs
      subst hs
      go_wp2_with fail
      go_loopw [3, 16] (fun sv iv wi => ∃ k s : Nat, k ≤ n ∧ iv = .int .i64 (k : Int) ∧ sv = .int .i64 (s : Int) ∧ w = wi ∧ s = total (fs.take k)) (fun _ iv _ => n - (intOf iv).toNat)
      case atStart => exact ⟨0, 0, by omega, rfl, rfl, rfl, rfl⟩
      case round =>
        obtain ⟨k, s, hk, rfl, rfl, rfl, hs⟩ := hrel
        have hsb : s ≤ 2147483647 * 200 := by
          rw [hs]
          refine Nat.le_trans (total_le fun f hf => HF.out f (List.mem_of_mem_take hf)) ?_
          rw [List.length_take]
          exact Nat.mul_le_mul_left _ (by omega)
        have HS := Lib.hid hs
        clear hs
        by_cases hlt : k < n
        · obtain ⟨b, o, ea, hb2, hcell⟩ := H.out.at_ (by omega)
          subst ea
          have gx := hcell k hlt
          obtain ⟨f, hf⟩ : ∃ f, f = fs.getD k nof := ⟨_, rfl⟩
          rw [← hf] at gx
          unfold Fld.v at gx
          have hfm : f ∈ fs := by rw [hf]; exact getD_mem (by rw [H.out.len]; exact hlt)
          have hfn := HF.out f hfm
          have hfe := Lib.hid hf
          clear hcell hf hfm
          go_wp2_with fail
          go_roundw
          case rel =>
            refine ⟨k + 1, s + f.n, by omega, by go_num, by go_num, trivial, ?_⟩
            rw [take_more (by rw [H.out.len]; exact hlt), total_append, ← hfe.out, HS.out]
            simp [total]
          case measure => simp [intOf]; omega
        · obtain rfl : k = n := by omega
          go_wp2_with fail
          go_roundw
          case rel => exact ⟨1, s, by omega, rfl, rfl, trivial, by rw [if_neg (by omega), HS.out, List.take_of_length_le (by rw [H.out.len]; exact Nat.le_refl _)]⟩
          case measure => simp [intOf]
    · obtain rfl : i = 1 := by omega
      rw [if_neg (by omega)] at hs
      subst hs
      go_wp2_with fail
      go_ret
      exact ⟨rfl, rfl⟩

def fieldsOk (n : Nat) (fs : List Fld) : Bool := decide (n ≤ 200) && decide (total fs ≤ 20000)
set_option maxRecDepth 100000 in
theorem vaFields (w : World) (a : Option Addr) (n c : Nat) (fs : List Fld) (h : Flds w a n c fs) (hf : ∀ f ∈ fs, f.n ≤ 2147483647) :
    Calls Try.prog 9 #[.slice a n c] w fun e w' => e = .returned (.bool (fieldsOk n fs)) ∧ Below w.heap.size w w' := by
  have hc := h.le
  have ht := h.top
  unfold maxLen at ht
  unfold fieldsOk
  by_cases g1 : n ≤ 200
  · have q1 : (n : Int) ≤ 200 := by omega
    have K := Lib.hid (vaSum (w.alloc (.cells #[.slice a n c] 30)) w.heap.size a n c fs (h.below ((Below.refl _ _).alloc (Nat.le_refl _) _)) g1 hf (by simp))
    rw [decide_eq_true g1, Bool.true_and]
    obtain ⟨S, hS⟩ : ∃ S, S = total fs := ⟨_, rfl⟩
    rw [← hS] at K ⊢
    clear h hf hS
    go_enter Try.func9, Try.ntmps9
    go_wp2_with (go_at_call 22; (with_reducible refine K.out.mono ?_); rintro e w1 ⟨rfl, rfl⟩)
    go_ret
    exact ⟨congrArg (fun b => Ending.returned (Value.bool b)) (decide_eq_decide.2 (by omega)), by go_grown⟩
  · have q1 : ¬ (n : Int) ≤ 200 := by omega
    rw [decide_eq_false g1, Bool.false_and]
    clear h hf
    go_enter Try.func9, Try.ntmps9
    go_wp2_with fail
    go_ret
    exact ⟨rfl, by go_grown⟩
end Go.Proofs.Ytgogeonbamheoaa.Tup
