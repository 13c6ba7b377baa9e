/- The law of tuples, walked. No condition. -/
import Derived.Test.YtgogeonbamheoaaTup12
set_option linter.unusedVariables false
namespace Go.Proofs.Ytgogeonbamheoaa.Tup
open Go.ChangeShapes Go.WideShapes Go.ChangeAt Go.RowKit
open Go.Proofs.Ytgogeonbamheoaa.Dig Go.Proofs.Ytgogeonbamheoaa.Mem Go.Proofs.Ytgogeonbamheoaa.Rb Go.Proofs.Ytgogeonbamheoaa.Sl Go.Proofs.Ytgogeonbamheoaa.Tri

theorem part_bytes (fs : List Fld) (hl : ∀ f ∈ fs, f.xs.length = f.n) (n i : Nat) (hi : i < fs.length) : ((tup fs n).drop (total (fs.take i))).take (fs.getD i nof).n = (fs.getD i nof).xs := by
  have hp := cat_part fs hl i hi
  have hc := cat_length fs hl
  have h1 : total (fs.take i) + (fs.getD i nof).n ≤ total fs := by
    have := total_take (fs := fs) (i + 1)
    rw [take_more hi, total_append] at this
    simpa [total] using this
  unfold tup
  rw [List.append_assoc, List.drop_append_of_le_length (by omega), List.take_append_of_le_length (by rw [List.length_drop]; omega), hp]

theorem parts_flds {w : World} {B n N b c T : Nat} {a : Option Addr} {fs : List Fld} (h : w.ownsRow B 22 1 (.slice a n c) n ((List.range n).map (part fs b N))) (hr : RB w (some ⟨b, 0, none⟩) N N (tup fs n)) (hl : ∀ f ∈ fs, f.xs.length = f.n)
    (hfl : fs.length = n) (hT : T = total fs) (hN : N = T + offs n + 2) (hTb : T ≤ 20000) : Flds w a n c ((List.range n).map (partF fs b N)) := by
  have hok : ∀ i, i < n → FldOk w (partF fs b N i) := fun i hi => by
    unfold partF
    split
    · exact ⟨RB.nil w, fun _ => rfl⟩
    · rename_i hz
      refine ⟨?_, by intro h; cases h⟩
      have h1 : total (fs.take i) + (fs.getD i nof).n ≤ T := by
        have := total_take (fs := fs) (i + 1)
        rw [take_more (by omega), total_append] at this
        rw [hT]
        simpa [total] using this
      have := hr.cut (lo := total (fs.take i)) (hi := total (fs.take i) + (fs.getD i nof).n) (by omega) (by omega)
      rw [Nat.add_sub_cancel_left, part_bytes fs hl n i (by omega)] at this
      unfold cutA at this
      rw [if_neg (by omega)] at this
      simpa only [Option.map_some, addr_add] using this
  have hall : ∀ f ∈ (List.range n).map (partF fs b N), FldOk w f := fun f hf => by
    obtain ⟨i, hi, rfl⟩ := List.mem_map.1 hf
    exact hok i (List.mem_range.1 hi)
  rcases h.2 with ⟨h0, hn⟩ | ⟨g, cap, cur, hv, hB, hh, hle, hmax, _, _⟩
  · injection h0 with e1 e2 e3
    subst e1 e2 e3
    exact ⟨by simp, Nat.le_refl _, Nat.zero_le _, hall, fun h => absurd h (by omega)⟩
  · injection hv with e1 e2 e3
    subst e1 e3
    refine ⟨by simp, hle, hmax, hall, fun hn => ⟨g, 0, rfl, ?_, fun i hi => ?_⟩⟩
    · rcases Nat.lt_or_ge g w.heap.size with h' | h'
      · exact h'
      · rw [Array.getElem?_eq_none h'] at hh; cases hh
    · have := h.cellAt i (by omega)
      rw [Nat.zero_add, this]
      simp [List.getD_eq_getElem?_getD, hi, partF_v]

theorem parts_xs (fs : List Fld) (hl : ∀ f ∈ fs, f.xs.length = f.n) (b N n : Nat) (hfl : fs.length = n) : ∀ k, k < n → (((List.range n).map (partF fs b N)).getD k nof).xs = (fs.getD k nof).xs := by
  intro k hk
  have hm := hl _ (getD_mem (fs := fs) (i := k) (by omega))
  have e : ((List.range n).map (partF fs b N)).getD k nof = partF fs b N k := by simp [List.getD_eq_getElem?_getD, hk]
  rw [e]
  unfold partF
  split
  · rename_i hz
    rw [hz] at hm
    exact (List.length_eq_zero_iff.1 hm).symm
  · rfl
theorem parts_at (fs : List Fld) (b N n k : Nat) (hk : k < n) : (((List.range n).map (partF fs b N)).getD k nof) = partF fs b N k := by simp [List.getD_eq_getElem?_getD, hk]
theorem notNil (a : Option Addr) (n c : Nat) : ∀ w, (binOp .neq 22 (.slice a n c) (.slice none 0 0)).run Try.prog w = .ok (.bool (!a.isNone)) w := fun w => by
  have := run_equal_slice_nil (P := Try.prog) w 22 5 a n c Try.underlying22
  simp [binOp, this, Result.andThen]

set_option maxRecDepth 100000 in
set_option maxHeartbeats 1000000 in
theorem main (w : World) (a : Option Addr) (n c T N E : Nat) (fs : List Fld) (h : Flds w a n c fs) (hf : fits fs = true) (hn : n ≤ 200) (hT : T = total fs) (hTb : T ≤ 20000) (hE : E = T + offs n) (hN : N = E + 2) :
    Calls Try.prog 4 #[.slice a n c] w fun e w' => e = .returned (.bool true) ∧ Below w.heap.size w w' := by
  have H := Lib.hid h
  have hl : ∀ f ∈ fs, f.xs.length = f.n := fun f hf => (h.ok f hf).1.len
  have hff : ∀ f ∈ fs, f.n ≤ 2147483647 := by
    intro f hm
    unfold fits at hf
    rw [List.all_eq_true] at hf
    exact of_decide_eq_true (hf f hm)
  have K8 := zzFits w a n c fs h
  rw [hf, decide_eq_true (by omega : n ≤ 2147483647)] at K8
  have K8 := Lib.hid K8
  have K9 := vaFields w a n c fs h hff
  have hfo : fieldsOk n fs = true := by unfold fieldsOk; rw [decide_eq_true hn, decide_eq_true (by omega : total fs ≤ 20000)]; rfl
  rw [hfo] at K9
  have K9 := Lib.hid K9
  have K10 := Lib.hid fun w' (hb : Below w.heap.size w w') => tupleOf w' a n c N fs (h.below hb) hn (by omega) (by omega)
  have HL := Lib.hid hl
  have HT := Lib.hid hT
  have HN := Lib.hid (show N = T + offs n + 2 by omega)
  have HE := Lib.hid hE
  have HNE := Lib.hid hN
  have hNb : N ≤ 21000 := by rw [hN, hE]; unfold offs; omega
  have hc := h.le
  have hct := h.top
  unfold maxLen at hct
  clear h hf hff hl hfo hT hN hE
  go_enter Try.func4, Try.ntmps4
  go_wp2_with (first
    | (go_at_call 8; (with_reducible refine K8.out.mono ?_); rintro e w0 ⟨rfl, rfl⟩)
    | (go_at_call 9; (with_reducible refine K9.out.mono ?_); rintro e w1 ⟨rfl, hb1⟩; have B1 := Lib.hid hb1; clear hb1)
    | (go_at_call 10; (with_reducible refine (K10.out _ B1.out).mono ?_); rintro e w2 ⟨g, rfl, hr2, hb2⟩; have R2 := Lib.hid hr2; have B2 := Lib.hid (B1.out.trans (hb2.mono B1.out.size)); clear hr2 hb2)
    | (go_at_call 11; (with_reducible refine (tupleParts w2 g N E n T fs R2.out HL.out H.out.len HT.out HE.out HNE.out hn hTb).mono ?_); rintro e w3 ⟨v, rfl, ho, hb3⟩; obtain ⟨pa, pc, rfl⟩ := Tri.own_form ho; have R3 := Lib.hid (R2.out.below hb3 (Nat.le_refl _)); have PF := Lib.hid (parts_flds ho R3.out HL.out H.out.len HT.out HN.out hTb); have B3 := Lib.hid (B2.out.trans (hb3.mono B2.out.size)); clear ho hb3)
    | (go_at_call 12; (with_reducible refine (tupleCopy w3 _ N N _ R3.out (by omega)).mono ?_); rintro e w4 ⟨g4, rfl, hr4, hb4⟩; have R4 := Lib.hid hr4; have R4t := Lib.hid (R3.out.below hb4 (Nat.le_refl _)); have PF4 := Lib.hid (PF.out.below hb4); have B4 := Lib.hid (B3.out.trans (hb4.mono B3.out.size)); clear hr4 hb4)
    | (go_at_call 13; (with_reducible refine (specTuple w4 a n c fs (H.out.below B4.out) hn (by have := HT.out; omega)).mono ?_); rintro e w5 ⟨sa, sn, sc, rfl, hr5, hb5⟩; have R5 := Lib.hid hr5; have R5t := Lib.hid (R4t.out.below hb5 (Nat.le_refl _)); have R5c := Lib.hid (R4.out.below hb5 (Nat.le_refl _)); have PF5 := Lib.hid (PF4.out.below hb5); have B5 := Lib.hid (B4.out.trans (hb5.mono B4.out.size)); clear hr5 hb5)
    | (go_at_call 7; (with_reducible refine (same w5 _ _ _ _ _ _ _ _ R5t.out R5.out rfl).mono ?_); rintro e w6 ⟨rfl, rfl⟩)
    | (go_at_call 7; (with_reducible refine (same w5 _ _ _ _ _ _ _ _ R5c.out R5t.out rfl).mono ?_); rintro e w6 ⟨rfl, rfl⟩)
    | (go_at_call 14; (with_reducible refine (vaAll w5 pa a n pc c _ fs PF5.out (H.out.below B5.out) (parts_xs fs HL.out _ _ _ H.out.len)).mono ?_); rintro e w7 ⟨rfl, hb7⟩; have PF7 := Lib.hid (PF5.out.below hb7); have B7 := Lib.hid (B5.out.trans (hb7.mono B5.out.size)); clear hb7))
  go_loopw [63] (fun iv wr => ∃ k : Nat, k ≤ n ∧ iv = .int .i64 (k : Int) ∧ Below w7.heap.size w7 wr) (fun iv _ => n - (intOf iv).toNat)
  case atStart => exact ⟨0, by omega, rfl, Below.refl _ _⟩
  case round =>
    obtain ⟨k, hk, rfl, hbel⟩ := hrel
    have BL := Lib.hid hbel
    clear hbel
    by_cases hlt : k < n
    · have hki : (k : Int) < (n : Int) := by omega
      have BW := B7.out.trans (BL.out.mono B7.out.size)
      obtain ⟨b1, o1, ea, hb1, hc1⟩ := (H.out.below BW).at_ (by omega)
      subst ea
      obtain ⟨f, hf⟩ : ∃ f, f = fs.getD k nof := ⟨_, rfl⟩
      have gx := fld_at hc1 hlt hf
      obtain ⟨b2, o2, eb, hb2, hc2⟩ := (PF7.out.below BL.out).at_ (by omega)
      subst eb
      have gy := hc2 k hlt
      rw [parts_at _ _ _ _ _ hlt] at gy
      unfold partF at gy
      rw [← hf] at gy
      have hfm : f ∈ fs := by rw [hf]; exact getD_mem (by rw [H.out.len]; exact hlt)
      have hfl := (H.out.ok f hfm).1.le
      have hft := (H.out.ok f hfm).1.top
      unfold maxLen at hft
      have BWH := Lib.hid BW
      clear hf hc1 hc2 hfm BW
      by_cases hz : f.n = 0
      · rw [if_pos hz] at gy
        unfold Fld.v at gy
        rw [hz] at gx
        have hnn := notNil none 0 0
        go_wp2_with fail
        go_roundw
        case rel => exact ⟨k + 1, by omega, by go_num, BL.out⟩
        case measure => simp [intOf]; omega
      · rw [if_neg hz] at gy
        unfold Fld.v at gy
        have hz2 : ¬ (f.n : Int) = 0 := by omega
        have hz3 : ((f.n : Int) == 0) = false := by simpa using hz
        go_wp2_with fail
        go_roundw
        case rel => exact ⟨k + 1, by omega, by go_num, BL.out⟩
        case measure => simp [intOf]; omega
    · obtain rfl : k = n := by omega
      go_wp2_with fail
      go_ret
      exact ⟨rfl, B7.out.trans (BL.out.mono B7.out.size)⟩

theorem walk (w : World) (a : Option Addr) (n c : Nat) (fs : List Fld) (h : Flds w a n c fs) :
    Calls Try.prog 4 #[.slice a n c] w fun e w' => e = .returned (.bool true) ∧ Below w.heap.size w w' := by
  have K8 := zzFits w a n c fs h
  have hc := h.le
  have hct := h.top
  unfold maxLen at hct
  by_cases g1 : (decide (n ≤ 2147483647) && fits fs) = true
  · have g1' := g1
    rw [Bool.and_eq_true] at g1'
    have hff : ∀ f ∈ fs, f.n ≤ 2147483647 := by
      intro f hm
      have := g1'.2
      unfold fits at this
      rw [List.all_eq_true] at this
      exact of_decide_eq_true (this f hm)
    by_cases g2 : fieldsOk n fs = true
    · have g2' := g2
      unfold fieldsOk at g2'
      rw [Bool.and_eq_true] at g2'
      exact main w a n c (total fs) (total fs + offs n + 2) (total fs + offs n) fs h g1'.2 (of_decide_eq_true g2'.1) rfl (of_decide_eq_true g2'.2) rfl rfl
    · have K9 := vaFields w a n c fs h hff
      rw [Bool.not_eq_true] at g2
      rw [g2] at K9
      rw [g1] at K8
      have K8 := Lib.hid K8
      have K9 := Lib.hid K9
      clear h hff g1 g1' g2
      go_enter Try.func4, Try.ntmps4
      go_wp2_with (first
        | (go_at_call 8; (with_reducible refine K8.out.mono ?_); rintro e w0 ⟨rfl, rfl⟩)
        | (go_at_call 9; (with_reducible refine K9.out.mono ?_); rintro e w1 ⟨rfl, hb1⟩; have B1 := Lib.hid hb1; clear hb1))
      go_ret
      exact ⟨rfl, B1.out⟩
  · rw [Bool.not_eq_true] at g1
    rw [g1] at K8
    have K8 := Lib.hid K8
    clear h g1
    go_enter Try.func4, Try.ntmps4
    go_wp2_with (go_at_call 8; (with_reducible refine K8.out.mono ?_); rintro e w0 ⟨rfl, rfl⟩)
    go_ret
    exact ⟨rfl, Below.refl _ _⟩
end Go.Proofs.Ytgogeonbamheoaa.Tup
