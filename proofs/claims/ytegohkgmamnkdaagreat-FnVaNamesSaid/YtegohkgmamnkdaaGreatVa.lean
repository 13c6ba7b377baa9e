/- What the laws ask of a node, walked. No condition. -/
import Derived.Test.YtegohkgmamnkdaaGreatImM
set_option linter.unusedVariables false
namespace Go.Proofs.YtegohkgmamnkdaaGreat.Msg
open Go.ChangeShapes Go.WideShapes Go.ChangeAt Go.RowKit
open Go.Proofs.YtegohkgmamnkdaaGreat.Dig Go.Proofs.YtegohkgmamnkdaaGreat.Mem Go.Proofs.YtegohkgmamnkdaaGreat.Rb
open Go.Proofs.YtegohkgmamnkdaaGreat.Cnt (encs enc Nums64)

def fits (fs : List Fld) : Bool := fs.all fun f => decide (f.n ≤ 2147483647)

set_option maxRecDepth 100000 in
theorem zzFits (w : World) (a : Option Addr) (n c : Nat) (fs : List Fld) (h : Flds w a n c fs) :
    Calls Tryz.prog 5 #[.slice a n c] w fun e w' => e = .returned (.bool (decide (n ≤ 2147483647) && fits fs)) ∧ w = w' := by
  have H := Lib.hid h
  have hc := h.le
  have ht := h.top
  unfold maxLen at ht
  by_cases g1 : 2147483647 < n
  · have q1 : (2147483647 : Int) < (n : Int) := by omega
    rw [decide_eq_false (by omega : ¬ n ≤ 2147483647)]
    clear h
    go_enter Tryz.func5, Tryz.ntmps5
    go_wp2_with fail
    go_ret
    exact ⟨rfl, rfl⟩
  · have q1 : ¬ (2147483647 : Int) < (n : Int) := by omega
    rw [decide_eq_true (by omega : n ≤ 2147483647), Bool.true_and]
    clear h
    go_enter Tryz.func5, Tryz.ntmps5
    go_wp2_with fail
    go_loopw [10] (fun iv wr => ∃ k : Nat, k ≤ n ∧ iv = .int .i64 (k : Int) ∧ wr = w ∧ ∀ j, j < k → (fs.getD j nof).n ≤ 2147483647) (fun iv _ => n - (intOf iv).toNat)
    case atStart => exact ⟨0, by omega, rfl, rfl, by omega⟩
    case round =>
      obtain ⟨k, hk, rfl, rfl, hall⟩ := hrel
      have HALL := Lib.hid hall
      clear hall
      by_cases hlt : k < n
      · obtain ⟨b, o, ea, hb2, hcell⟩ := H.out.at_ (by omega)
        subst ea
        have gx := hcell k hlt
        obtain ⟨f, hf⟩ : ∃ f, f = fs.getD k nof := ⟨_, rfl⟩
        rw [← hf] at gx
        unfold Fld.v at gx
        have hfm : f ∈ fs := by rw [hf]; exact getD_mem (by rw [H.out.len]; exact hlt)
        have hfl := (H.out.ok f hfm).1.le
        have hft := (H.out.ok f hfm).1.top
        unfold maxLen at hft
        have HF := Lib.hid hf
        have HFM := Lib.hid hfm
        clear hcell hf hfm
        by_cases g2 : 2147483647 < f.n
        · have q2 : (2147483647 : Int) < (f.n : Int) := by omega
          go_wp2_with fail
          go_ret
          have : fits fs = false := by
            unfold fits
            rw [List.all_eq_false]
            exact ⟨f, HFM.out, by simp; omega⟩
          exact ⟨by rw [this]; rfl, rfl⟩
        · have q2 : ¬ (2147483647 : Int) < (f.n : Int) := by omega
          go_wp2_with fail
          go_roundw
          case rel => exact ⟨k + 1, by omega, by go_num, trivial, fun j hj => by
            rcases Nat.lt_or_ge j k with h | h
            · exact HALL.out j h
            · rw [show j = k by omega, ← HF.out]; omega⟩
          case measure => simp [intOf]; omega
      · obtain rfl : k = n := by omega
        go_wp2_with fail
        go_ret
        have : fits fs = true := by
          unfold fits
          rw [List.all_eq_true]
          intro x hx
          obtain ⟨j, hj, rfl⟩ := List.getElem_of_mem hx
          have := HALL.out j (by rw [H.out.len] at hj; exact hj)
          rw [List.getD_eq_getElem?_getD, List.getElem?_eq_getElem hj] at this
          exact decide_eq_true this
        exact ⟨by rw [this]; rfl, rfl⟩

set_option maxRecDepth 100000 in
theorem vaSum (w : World) (g : Nat) (a : Option Addr) (n c : Nat) (fs : List Fld) (h : Flds w a n c fs) (hn : n ≤ 200) (hf : ∀ f ∈ fs, f.n ≤ 2147483647) (hg : w.cell? ⟨g, 0, none⟩ = some (.slice a n c)) :
    Calls Tryz.prog 11 #[.slice (some ⟨g, 0, none⟩) 1 1] w fun e w' => e = .returned (.int .i64 ((total fs : Nat) : Int)) ∧ w = w' := by
  have H := Lib.hid h
  have HF := Lib.hid hf
  have hc := h.le
  have ht := h.top
  unfold maxLen at ht
  clear h hf
  go_enter Tryz.func11, Tryz.ntmps11
  go_wp2_with fail
  go_loopw [3, 10] (fun sv iv wr => ∃ i s : Nat, i ≤ 1 ∧ iv = .int .i64 (i : Int) ∧ sv = .int .i64 (s : Int) ∧ w = wr ∧ s = (if i = 0 then 0 else total fs)) (fun _ iv _ => 1 - (intOf iv).toNat)
  case atStart => exact ⟨0, 0, by omega, rfl, rfl, rfl, rfl⟩
  case round =>
    obtain ⟨i, s, hi, rfl, rfl, rfl, hs⟩ := hrel
    by_cases hi0 : i = 0
    · subst hi0
      rw [if_pos rfl] at hs
      subst hs
      go_wp2_with fail
      go_loopw [3, 16] (fun sv iv wi => ∃ k s : Nat, k ≤ n ∧ iv = .int .i64 (k : Int) ∧ sv = .int .i64 (s : Int) ∧ w = wi ∧ s = total (fs.take k)) (fun _ iv _ => n - (intOf iv).toNat)
      case atStart => exact ⟨0, 0, by omega, rfl, rfl, rfl, rfl⟩
      case round =>
        obtain ⟨k, s, hk, rfl, rfl, rfl, hs⟩ := hrel
        have hsb : s ≤ 2147483647 * 200 := by
          rw [hs]
          refine Nat.le_trans (total_le fun f hf => HF.out f (List.mem_of_mem_take hf)) ?_
          rw [List.length_take]
          exact Nat.mul_le_mul_left _ (by omega)
        have HS := Lib.hid hs
        clear hs
        by_cases hlt : k < n
        · obtain ⟨b, o, ea, hb2, hcell⟩ := H.out.at_ (by omega)
          subst ea
          have gx := hcell k hlt
          obtain ⟨f, hf⟩ : ∃ f, f = fs.getD k nof := ⟨_, rfl⟩
          rw [← hf] at gx
          unfold Fld.v at gx
          have hfm : f ∈ fs := by rw [hf]; exact getD_mem (by rw [H.out.len]; exact hlt)
          have hfn := HF.out f hfm
          have hfe := Lib.hid hf
          clear hcell hf hfm
          go_wp2_with fail
          go_roundw
          case rel =>
            refine ⟨k + 1, s + f.n, by omega, by go_num, by go_num, trivial, ?_⟩
            rw [take_more (by rw [H.out.len]; exact hlt), total_append, ← hfe.out, HS.out]
            simp [total]
          case measure => simp [intOf]; omega
        · obtain rfl : k = n := by omega
          go_wp2_with fail
          go_roundw
          case rel => exact ⟨1, s, by omega, rfl, rfl, trivial, by rw [if_neg (by omega), HS.out, List.take_of_length_le (by rw [H.out.len]; exact Nat.le_refl _)]⟩
          case measure => simp [intOf]
    · obtain rfl : i = 1 := by omega
      rw [if_neg (by omega)] at hs
      subst hs
      go_wp2_with fail
      go_ret
      exact ⟨rfl, rfl⟩

theorem vaSame (w : World) (a b : Option Addr) (n c m d : Nat) (xs ys : List Nat) (hx : RB w a n c xs) (hy : RB w b m d ys) :
    Calls Tryz.prog 8 #[.slice a n c, .slice b m d] w fun e w' => e = .returned (.bool (xs == ys)) ∧ w = w' := by
  have h1 := run_text (P := Tryz.prog) (dst := 9) Tryz.underlying26 Tryz.underlying5 Tryz.underlying9 hx
  have h2 := run_text (P := Tryz.prog) (dst := 9) Tryz.underlying26 Tryz.underlying5 Tryz.underlying9 hy
  have he := txt_eq hx.byte hy.byte
  clear hx hy
  go_enter Tryz.func8, Tryz.ntmps8
  go_wp2
  go_ret
  exact ⟨rfl, rfl⟩

theorem cell_new (w : World) (x : Value) (t : TypeId) (k : Nat) (h : w.heap.size = k) : (w.alloc (.cells #[x] t)).cell? ⟨k, 0, none⟩ = some x := by
  subst h
  simp only [World.cell?, heap_alloc_new]
  rfl
/-- A law's test answers whether Q is so. -/
def NodeR (Q : Prop) (w : World) (e : Ending) (w' : World) : Prop := ∃ r, e = .returned (.bool r) ∧ ((r = true ∧ Q) ∨ (r = false ∧ ¬ Q)) ∧ Below w.heap.size w w'
/-- What a node is. -/
structure NodeOk (m m2 k : Nat) (fs gs : List Fld) (ls : List Nat) (L : Int) (nm : Bool) : Prop where
  m0 : 0 < m
  m2 : m2 = m
  mt : m ≤ 200
  kt : total fs ≤ 20000
  vt : total gs ≤ 20000
  k0 : 0 < total fs
  l0 : 0 ≤ L
  lt : L ≤ 255
  v20 : (0 < L ∨ nm = true) → ∀ g ∈ gs, g.n = 20
  ls : ∀ x ∈ ls, x ≤ 1099511627776
  kk : (L = 0 ∧ k = 0) ∨ (0 < L ∧ k = m)

set_option maxRecDepth 100000 in
set_option maxHeartbeats 4000000 in
theorem vaNode (w : World) (a b d : Option Addr) (m c m2 c2 k ck : Nat) (fs gs : List Fld) (ls : List Nat) (L : Int) (nm : Bool) (h : Flds w a m c fs) (h' : Flds w b m2 c2 gs) (hf : ∀ f ∈ fs, f.n ≤ 2147483647) (hg : ∀ f ∈ gs, f.n ≤ 2147483647) (hm : m ≤ 2147483647) (hk : ls.length = k) (hk2 : k ≤ 2147483647) (hkc : k ≤ ck) (hct : ck ≤ maxLen) (hn : Nums64 w d ls) (hb : ∀ x ∈ ls, x < 18446744073709551616) (hL : -9223372036854775808 ≤ L) (hL2 : L ≤ 9223372036854775807) :
    Calls Tryz.prog 6 #[.slice a m c, .slice b m2 c2, .slice d k ck, .int .i64 L, .bool nm] w fun e w' => NodeR (NodeOk m m2 k fs gs ls L nm) w e w' := by
  have hc1 := h.le
  have hc2 := h.top
  have hc3 := h'.le
  have hc4 := h'.top
  unfold maxLen at hc2 hc4 hct
  have HF := Lib.hid h
  have HG := Lib.hid h'
  by_cases g1 : m = 0
  · subst g1
    have q1 : ((0 : Int) == 0) = true := rfl
    clear h h' hf hg hn hb
    go_enter Tryz.func6, Tryz.ntmps6
    go_wp2_with fail
    go_ret
    exact ⟨false, rfl, (Or.inr ⟨rfl, fun h => by have a1 := h.m0; have a2 := h.m2; have a3 := h.mt; omega⟩), by go_grown⟩
  have q1 : ((m : Int) == 0) = false := by simp; omega
  by_cases g2 : 200 < m
  · have q2 : (200 : Int) < (m : Int) := by omega
    clear h h' hf hg hn hb
    go_enter Tryz.func6, Tryz.ntmps6
    go_wp2_with fail
    go_ret
    exact ⟨false, rfl, (Or.inr ⟨rfl, fun h => by have a1 := h.m0; have a2 := h.m2; have a3 := h.mt; omega⟩), by go_grown⟩
  have q2 : ¬ (200 : Int) < (m : Int) := by omega
  by_cases g3 : m2 = m
  · subst g3
    have O1 : Below w.heap.size w (w.alloc (.cells #[.slice a m2 c] 22)) := (Below.refl _ _).alloc (Nat.le_refl _) _
    have O2 : Below w.heap.size w ((w.alloc (.cells #[.slice a m2 c] 22)).alloc (.cells #[.slice b m2 c2] 22)) := O1.alloc (by simp) _
    have O3 : Below w.heap.size w (((w.alloc (.cells #[.slice a m2 c] 22)).alloc (.cells #[.slice b m2 c2] 22)).alloc (.cells #[.slice a m2 c] 22)) := O2.alloc (by simp; omega) _
    have KA1 := Lib.hid (vaSum _ w.heap.size a m2 c fs (h.below O1) (by omega) hf (cell_new _ _ _ _ rfl))
    have KB2 := Lib.hid (vaSum _ (w.heap.size + 1) b m2 c2 gs (h'.below O2) (by omega) hg (cell_new _ _ _ _ (by simp)))
    have KA3 := Lib.hid (vaSum _ (w.heap.size + 1 + 1) a m2 c fs (h.below O3) (by omega) hf (cell_new _ _ _ _ (by simp)))
    obtain ⟨kn, hkn⟩ : ∃ kn, kn = total fs := ⟨_, rfl⟩
    obtain ⟨vn, hvn⟩ : ∃ vn, vn = total gs := ⟨_, rfl⟩
    rw [← hkn] at KA1 KA3
    rw [← hvn] at KB2
    have HKN := Lib.hid hkn
    have HVN := Lib.hid hvn
    have HLS := Lib.hid hk
    have HNU := Lib.hid hn
    have HLB := Lib.hid hb
    have BO3 := Lib.hid O3
    clear h h' hf hg hn hb hkn hvn hk O1 O2 O3
    by_cases g4 : 20000 < kn
    · have q4 : (20000 : Int) < (kn : Int) := by omega
      go_enter Tryz.func6, Tryz.ntmps6
      go_wp2_with (first
        | (go_at_call 11; (with_reducible refine KA1.out.mono ?_); rintro e w1 ⟨rfl, rfl⟩)
        | (go_at_call 11; (with_reducible refine KB2.out.mono ?_); rintro e w1 ⟨rfl, rfl⟩)
        | (go_at_call 11; (with_reducible refine KA3.out.mono ?_); rintro e w1 ⟨rfl, rfl⟩))
      go_ret
      exact ⟨false, rfl, (Or.inr ⟨rfl, fun h => by have a4 := h.kt; have a5 := h.vt; have a6 := h.k0; have a7 := h.l0; have a8 := h.lt; have a9 := h.kk; have b1 := HKN.out; have b2 := HVN.out; omega⟩), by go_grown⟩
    have q4 : ¬ (20000 : Int) < (kn : Int) := by omega
    by_cases g5 : 20000 < vn
    · have q5 : (20000 : Int) < (vn : Int) := by omega
      go_enter Tryz.func6, Tryz.ntmps6
      go_wp2_with (first
        | (go_at_call 11; (with_reducible refine KA1.out.mono ?_); rintro e w1 ⟨rfl, rfl⟩)
        | (go_at_call 11; (with_reducible refine KB2.out.mono ?_); rintro e w1 ⟨rfl, rfl⟩)
        | (go_at_call 11; (with_reducible refine KA3.out.mono ?_); rintro e w1 ⟨rfl, rfl⟩))
      go_ret
      exact ⟨false, rfl, (Or.inr ⟨rfl, fun h => by have a4 := h.kt; have a5 := h.vt; have a6 := h.k0; have a7 := h.l0; have a8 := h.lt; have a9 := h.kk; have b1 := HKN.out; have b2 := HVN.out; omega⟩), by go_grown⟩
    have q5 : ¬ (20000 : Int) < (vn : Int) := by omega
    by_cases g6 : kn = 0
    · subst g6
      go_enter Tryz.func6, Tryz.ntmps6
      go_wp2_with (first
        | (go_at_call 11; (with_reducible refine KA1.out.mono ?_); rintro e w1 ⟨rfl, rfl⟩)
        | (go_at_call 11; (with_reducible refine KB2.out.mono ?_); rintro e w1 ⟨rfl, rfl⟩)
        | (go_at_call 11; (with_reducible refine KA3.out.mono ?_); rintro e w1 ⟨rfl, rfl⟩))
      go_ret
      exact ⟨false, rfl, (Or.inr ⟨rfl, fun h => by have a4 := h.kt; have a5 := h.vt; have a6 := h.k0; have a7 := h.l0; have a8 := h.lt; have a9 := h.kk; have b1 := HKN.out; have b2 := HVN.out; omega⟩), by go_grown⟩
    have q6 : ((kn : Int) == 0) = false := by simp; omega
    by_cases g7 : L < 0
    · skip
      go_enter Tryz.func6, Tryz.ntmps6
      go_wp2_with (first
        | (go_at_call 11; (with_reducible refine KA1.out.mono ?_); rintro e w1 ⟨rfl, rfl⟩)
        | (go_at_call 11; (with_reducible refine KB2.out.mono ?_); rintro e w1 ⟨rfl, rfl⟩)
        | (go_at_call 11; (with_reducible refine KA3.out.mono ?_); rintro e w1 ⟨rfl, rfl⟩))
      go_ret
      exact ⟨false, rfl, (Or.inr ⟨rfl, fun h => by have a4 := h.kt; have a5 := h.vt; have a6 := h.k0; have a7 := h.l0; have a8 := h.lt; have a9 := h.kk; have b1 := HKN.out; have b2 := HVN.out; omega⟩), by go_grown⟩
    by_cases g8 : 255 < L
    · skip
      go_enter Tryz.func6, Tryz.ntmps6
      go_wp2_with (first
        | (go_at_call 11; (with_reducible refine KA1.out.mono ?_); rintro e w1 ⟨rfl, rfl⟩)
        | (go_at_call 11; (with_reducible refine KB2.out.mono ?_); rintro e w1 ⟨rfl, rfl⟩)
        | (go_at_call 11; (with_reducible refine KA3.out.mono ?_); rintro e w1 ⟨rfl, rfl⟩))
      go_ret
      exact ⟨false, rfl, (Or.inr ⟨rfl, fun h => by have a4 := h.kt; have a5 := h.vt; have a6 := h.k0; have a7 := h.l0; have a8 := h.lt; have a9 := h.kk; have b1 := HKN.out; have b2 := HVN.out; omega⟩), by go_grown⟩
    have q7 : ¬ L < 0 := g7
    have q8 : ¬ 255 < L := g8
    go_enter Tryz.func6, Tryz.ntmps6
    go_wp2_with (first
      | (go_at_call 11; (with_reducible refine KA1.out.mono ?_); rintro e w1 ⟨rfl, rfl⟩)
      | (go_at_call 11; (with_reducible refine KB2.out.mono ?_); rintro e w1 ⟨rfl, rfl⟩)
      | (go_at_call 11; (with_reducible refine KA3.out.mono ?_); rintro e w1 ⟨rfl, rfl⟩))
    generalize hW : ((w.alloc (.cells #[.slice a m2 c] 22)).alloc (.cells #[.slice b m2 c2] 22)).alloc (.cells #[.slice a m2 c] 22) = W
    rw [hW] at BO3
    clear hW KA1 KB2 KA3
    obtain ⟨CV, hCV⟩ : ∃ CV : Prop, CV = (0 < L ∨ nm = true) := ⟨_, rfl⟩
    have HCV := Lib.hid hCV
    clear hCV
    go_loopw [59] (fun iv wr => ∃ k : Nat, k ≤ m2 ∧ iv = .int .i64 (k : Int) ∧ wr = W ∧ ∀ j, j < k → CV → (gs.getD j nof).n = 20) (fun iv _ => m2 - (intOf iv).toNat)
    case atStart => exact ⟨0, by omega, rfl, rfl, by omega⟩
    case round =>
      obtain ⟨i, hi, rfl, rfl, hall⟩ := hrel
      have HALL := Lib.hid hall
      clear hall
      by_cases hlt : i < m2
      · obtain ⟨bb, o, ea, hb2, hcell⟩ := HG.out.at_ (by omega)
        subst ea
        obtain ⟨g, hg⟩ : ∃ g, g = gs.getD i nof := ⟨_, rfl⟩
        have gx : wr.cell? ⟨bb, o + i, none⟩ = some (.slice g.a g.n g.c) := by
          have := (BO3.out.cell (p := ⟨bb, o + i, none⟩) hb2).trans (hcell i hlt)
          rw [← hg] at this; exact this
        have HGD := Lib.hid hg
        have HGM := Lib.hid (show g ∈ gs by rw [hg]; exact getD_mem (by rw [HG.out.len]; exact hlt))
        have NEXT := Lib.hid (show (CV → g.n = 20) → ∀ j, j < i + 1 → CV → (gs.getD j nof).n = 20 from fun h20 j hj hc => by
          rcases Nat.lt_or_ge j i with h1 | h1
          · exact HALL.out j h1 hc
          · rw [show j = i by omega, ← HGD.out]; exact h20 hc)
        clear hcell hg
        by_cases h20 : g.n = 20
        · have h20' : ((g.n : Int) == 20) = true := by simp; omega
          have h20'' : (g.n : Int) = 20 := by omega
          cases nm <;> by_cases hL0 : 0 < L
          all_goals
            go_wp2_with fail
            go_roundw
            case rel => exact ⟨i + 1, by omega, by go_num, trivial, NEXT.out fun _ => h20⟩
            case measure => simp [intOf]; omega
        · have h20' : ((g.n : Int) == 20) = false := by simp; omega
          have h20'' : ¬ (g.n : Int) = 20 := by omega
          obtain hnm | hnm : nm = true ∨ nm = false := by cases nm <;> simp
          · subst hnm
            by_cases hL0 : 0 < L
            all_goals
              go_wp2_with fail
              go_ret
              exact ⟨false, rfl, (Or.inr ⟨rfl, fun h => h20 (h.v20 (Or.inr rfl) g HGM.out)⟩), BO3.out⟩
          · subst hnm
            by_cases hL0 : 0 < L
            · go_wp2_with fail
              go_ret
              exact ⟨false, rfl, (Or.inr ⟨rfl, fun h => h20 (h.v20 (Or.inl hL0) g HGM.out)⟩), BO3.out⟩
            · have hcv : ¬ CV := by rw [HCV.out]; simp; omega
              have HCN := Lib.hid hcv
              clear hcv
              go_wp2_with fail
              go_roundw
              case rel => exact ⟨i + 1, by omega, by go_num, trivial, NEXT.out fun h => absurd h HCN.out⟩
              case measure => simp [intOf]; omega
      · obtain rfl : i = m2 := by omega
        have V20 := Lib.hid (show (0 < L ∨ nm = true) → ∀ g ∈ gs, g.n = 20 from fun hc g hg => by
          obtain ⟨j, hj, rfl⟩ := List.getElem_of_mem hg
          have := HALL.out j (by rw [HG.out.len] at hj; exact hj) (by rw [HCV.out]; exact hc)
          rw [List.getD_eq_getElem?_getD, List.getElem?_eq_getElem hj] at this
          exact this)
        clear HALL
        go_wp2_with fail
        go_loopw [13, 76] (fun sv iv wx => ∃ j : Nat, ∃ s : Int, j ≤ k ∧ iv = .int .i64 (j : Int) ∧ sv = .int .u64 s ∧ wx = wr ∧ ∀ q, q < j → ls.getD q 0 ≤ 1099511627776) (fun _ iv _ => k - (intOf iv).toNat)
        case atStart => exact ⟨0, 0, by omega, rfl, rfl, rfl, by omega⟩
        case round =>
          obtain ⟨j, s, hj, rfl, rfl, rfl, hall⟩ := hrel
          have HALL := Lib.hid hall
          clear hall
          by_cases hlt2 : j < k
          · obtain ⟨bb, o, ea, hb2, hcell⟩ := HNU.out (by rw [HLS.out]; omega)
            subst ea
            obtain ⟨x, hx⟩ : ∃ x, x = ls.getD j 0 := ⟨_, rfl⟩
            have gy : wr.cell? ⟨bb, o + j, none⟩ = some (.int .u64 (x : Int)) := by
              have := (BO3.out.cell (p := ⟨bb, o + j, none⟩) hb2).trans (hcell j (by rw [HLS.out]; exact hlt2))
              rw [← hx] at this; exact this
            have HX := Lib.hid hx
            have HXM := Lib.hid (show x ∈ ls by rw [hx, List.getD_eq_getElem?_getD, List.getElem?_eq_getElem (by rw [HLS.out]; exact hlt2)]; exact List.getElem_mem _)
            clear hcell hx
            by_cases hbig : 1099511627776 < x
            · have hbig' : (1099511627776 : Int) < (x : Int) := by omega
              go_wp2_with fail
              go_ret
              exact ⟨false, rfl, (Or.inr ⟨rfl, fun h => by have := h.ls x HXM.out; omega⟩), BO3.out⟩
            · have hbig' : ¬ (1099511627776 : Int) < (x : Int) := by omega
              go_wp2_with fail
              go_roundw
              case rel => exact ⟨j + 1, _, by omega, by go_num, rfl, trivial, fun q hq => by
                rcases Nat.lt_or_ge q j with h1 | h1
                · exact HALL.out q h1
                · rw [show q = j by omega, ← HX.out]; omega⟩
              case measure => simp [intOf]; omega
          · obtain rfl : j = k := by omega
            have LS := Lib.hid (show ∀ x ∈ ls, x ≤ 1099511627776 from fun x hx => by
              obtain ⟨q, hq, rfl⟩ := List.getElem_of_mem hx
              have := HALL.out q (by rw [HLS.out] at hq; exact hq)
              rw [List.getD_eq_getElem?_getD, List.getElem?_eq_getElem hq] at this
              exact this)
            clear HALL
            by_cases hl0 : L = 0
            · subst hl0
              by_cases hk0 : j = 0
              · subst hk0
                go_wp2_with fail
                go_ret
                exact ⟨true, rfl, (Or.inl ⟨rfl, ⟨by omega, rfl, by omega, by have := HKN.out; omega, by have := HVN.out; omega, by have := HKN.out; omega, by omega, by omega, V20.out, LS.out, Or.inl ⟨rfl, rfl⟩⟩⟩), BO3.out⟩
              · have hk0' : ((j : Int) == 0) = false := by simp; omega
                have hk0'' : ¬ (j : Int) = 0 := by omega
                go_wp2_with fail
                go_ret
                exact ⟨false, rfl, (Or.inr ⟨rfl, fun h => by have a4 := h.kt; have a5 := h.vt; have a6 := h.k0; have a7 := h.l0; have a8 := h.lt; have a9 := h.kk; have b1 := HKN.out; have b2 := HVN.out; omega⟩), BO3.out⟩
            · have hL0 : 0 < L := by omega
              have hl0' : (L == 0) = false := by simp; omega
              by_cases hkm : j = i
              · subst hkm
                go_wp2_with fail
                go_ret
                exact ⟨true, rfl, (Or.inl ⟨rfl, ⟨by omega, rfl, by omega, by have := HKN.out; omega, by have := HVN.out; omega, by have := HKN.out; omega, by omega, by omega, V20.out, LS.out, Or.inr ⟨hL0, rfl⟩⟩⟩), BO3.out⟩
              · have hkm' : ((j : Int) == (i : Int)) = false := by simp; omega
                have hkm'' : ¬ (j : Int) = (i : Int) := by omega
                go_wp2_with fail
                go_ret
                exact ⟨false, rfl, (Or.inr ⟨rfl, fun h => by have a4 := h.kt; have a5 := h.vt; have a6 := h.k0; have a7 := h.l0; have a8 := h.lt; have a9 := h.kk; have b1 := HKN.out; have b2 := HVN.out; omega⟩), BO3.out⟩
  · have q3 : ((m2 : Int) == (m : Int)) = false := by simp; omega
    have q3' : ¬ (m2 : Int) = (m : Int) := by omega
    clear h h' hf hg hn hb
    go_enter Tryz.func6, Tryz.ntmps6
    go_wp2_with fail
    go_ret
    exact ⟨false, rfl, (Or.inr ⟨rfl, fun h => by have a1 := h.m0; have a2 := h.m2; have a3 := h.mt; omega⟩), by go_grown⟩
end Go.Proofs.YtegohkgmamnkdaaGreat.Msg
