/- Bytes copied into a block of the call's own; the builder's block made greater, walked. Condition: it was not made greater before. -/
import Derived.Test.YtegohkgmamnkdaaGreatBld3
import Derived.Laws.CopyOwn
import Derived.Deep.OwnRows
import Derived.Laws.OwnMore
import Derived.Maps.AppendAt
set_option linter.unusedVariables false
namespace Go.Proofs.YtegohkgmamnkdaaGreat.Msg
open Go.ChangeShapes Go.WideShapes Go.ChangeAt Go.RowKit
open Go.Proofs.YtegohkgmamnkdaaGreat.Dig Go.Proofs.YtegohkgmamnkdaaGreat.Mem Go.Proofs.YtegohkgmamnkdaaGreat.Rb

theorem splice_bs (cur ys : List Nat) (rest : List Value) (o : Nat) (h : o + ys.length ≤ cur.length) : splice (bs cur ++ rest) o (bs ys) = bs (put cur o ys) ++ rest := by
  unfold splice put
  rw [List.take_append_of_le_length (by rw [bs_length]; omega), List.drop_append_of_le_length (by rw [bs_length, bs_length]; omega), bs_length]
  simp [bs]

section
variable {ops : Array Oper} {rest : List Oper} {o : Oper} {a : Act} {Q : Exit → Act → World → Prop} {w : World}
theorem copy_blk {g M off : Nat} {cur ys : List Nat} (D : Hid (Blk w g M cur)) (hgd : o.guard = none) (d s : Operand) (dT sT : TypeId) (ho : o.op = .call { callee := .builtin .copy, args := #[d, s], argTypes := #[dT, sT] })
    (elem : TypeId) (hu : Tryz.prog.underlying dT = some (.slice elem)) (hsz : (Tryz.prog.info? elem).map (·.size) = some 1)
    (dp : Option Addr) (N C : Nat) (hd : a.eval d = .slice dp N C) (sp : Option Addr) (n c : Nat) (hs : a.eval s = .slice sp n c) (R : Hid (RB w sp n c ys)) (k : Nat) (hk : k = Nat.min n N)
    (hdp : 0 < k → dp = some ⟨g, off, none⟩) (hfit : off + k ≤ cur.length)
    (h : ∀ w', Hid (Blk w' g M (put cur off (ys.take k))) → Hid (Wr [g] w w') → wpList Tryz.prog ops Q rest (a.put o.dst (goInt k)) w') : wpList Tryz.prog ops Q (o :: rest) a w := by
  have hl := R.out.len
  have hkn : k ≤ n := by rw [hk]; exact Nat.min_le_left _ _
  have hlen : (bs (ys.take k)).length = k := by rw [bs_length, List.length_take]; omega
  rcases Nat.eq_zero_or_pos k with h0 | h0
  · subst h0
    refine wpList_copy_nothing hgd d s dT sT ho elem hu hsz dp sp N C n c hd hs hk.symm ?_
    refine h w (Lib.hid ?_) (Lib.hid (Wr.refl _ _))
    rw [List.take_zero, put_nil]; exact D.out
  · have hdp := hdp h0
    subst hdp
    obtain ⟨b, of, e, hb⟩ := R.out.at_ (by omega)
    subst e
    obtain ⟨rs, hM, hrow⟩ := D.out
    refine wpList_copy_own hgd d s dT sT ho elem hu hsz g off N C ⟨b, of, none⟩ n c hd hs (bs cur ++ rs).toArray _ hrow (bs (ys.take k)) (by rw [hlen, hk]) (fun j v hj => ?_) (by rw [hlen]; simp only [List.size_toArray, List.length_append, bs_length]; omega) (fun v hv => ?_) ?_
    · have hj' : j < k := by
        have := (List.getElem?_eq_some_iff.1 hj).1
        rwa [hlen] at this
      rw [bs_get (by rw [List.length_take]; omega)] at hj
      have := hb j (by omega)
      unfold Addr.add
      have e1 : (ys.take k).getD j 0 = ys.getD j 0 := by simp [List.getD_eq_getElem?_getD, List.getElem?_take_of_lt hj']
      rw [e1] at hj
      by_cases h00 : j = 0
      · subst h00; simpa using this.trans hj
      · simp only [if_neg h00]; exact this.trans hj
    · obtain ⟨x, _, rfl⟩ := List.mem_map.1 hv
      rfl
    · rw [hlen]
      refine h _ (Lib.hid ⟨rs, by rw [put_length (by rw [List.length_take]; omega)]; exact hM, ?_⟩) (Lib.hid ⟨rfl, rfl, rfl, by simp, fun i _ hi => setRow_other _ _ _ _ (by simpa using hi)⟩)
      rw [← splice_bs cur (ys.take k) rs off (by rw [List.length_take]; omega)]
      simp only [splice, hlen]
      simpa using setRow_heap w g _ ((bs cur ++ rs).take off ++ (bs (ys.take k) ++ (bs cur ++ rs).drop (off + k))).toArray _ _ hrow
end

theorem made_bs (n : Nat) : madeCells #[Value.int .u8 0] n = (bs (List.replicate n 0)).toArray := by
  apply Array.toList_inj.1
  rw [toList_madeCells_one]
  simp [bs]
theorem info5 : (Tryz.prog.info? 5).map (fun i => (i.zero, i.size, i.bytes)) = some (some (.int .u8 0), 1, 1) := by kernel_rfl
theorem size5 : (Tryz.prog.info? 5).map (·.size) = some 1 := by kernel_rfl
theorem cutHi {k : IntKind} (g N C hi : Nat) (h : hi ≤ N) (h2 : N ≤ C) : ∀ w, (Instr.slice 26 (.slice (some ⟨g, 0, none⟩) N C) none (some (.int k (hi : Int))) none).run Tryz.prog w = .ok (.slice (some ⟨g, 0, none⟩) hi C) w := fun w => by
  have he : Tryz.prog.underlying 26 = some (.slice (Tryz.prog.elem 26)) := by rw [el26]; exact Tryz.underlying26
  have hs : (sizeOf (Tryz.prog.elem 26)).run Tryz.prog w = .ok 1 w := by rw [el26]; exact u8size w
  rw [run_slice_h w 26 (some ⟨g, 0, none⟩) N C he k (hi : Int) (by omega) (by omega), hs]
  simp [Result.andThen, sliced, Addr.add]
theorem and_top (n : Nat) (h : n ≤ 10000000) : bits .and .i64 (n : Int) 3221225472 = 0 := by
  show IntKind.i64.wrap ((BitVec.ofInt 64 (n : Int) &&& BitVec.ofInt 64 3221225472).toNat : Int) = 0
  have e : (BitVec.ofInt 64 (n : Int) &&& BitVec.ofInt 64 3221225472) = 0 := by
    apply BitVec.eq_of_toNat_eq
    rw [BitVec.toNat_and, ofInt_u64 n (by omega)]
    have h1 : (BitVec.ofInt 64 3221225472).toNat = 3 * 2 ^ 30 := by decide
    rw [h1]
    show n &&& 3 * 2 ^ 30 = 0
    apply Nat.eq_of_testBit_eq
    intro i
    rw [Nat.testBit_and, Nat.zero_testBit, Nat.testBit_mul_two_pow]
    by_cases hi : 30 ≤ i
    · have : n.testBit i = false := Nat.testBit_lt_two_pow (Nat.lt_of_lt_of_le (show n < 2 ^ 30 by omega) (Nat.pow_le_pow_right (by omega) hi))
      simp [this]
    · simp [hi]
  rw [e]
  simp [IntKind.wrap, IntKind.bits, IntKind.signed]

theorem own_of_blk {w : World} {g M n : Nat} {xs : List Nat} (h : Blk w g M xs) (hn : xs.length = n) (hM : M ≤ maxLen) : w.ownsRow 0 5 1 (.slice (some ⟨g, 0, none⟩) n M) n (bs xs) := by
  obtain ⟨rest, h1, h2⟩ := h
  refine ⟨by rw [bs_length, hn, Nat.mul_one], Or.inr ⟨g, M, _, rfl, Nat.zero_le _, h2, by omega, hM, ?_, ?_⟩⟩
  · simp only [List.size_toArray, List.length_append, bs_length]; omega
  · rw [Nat.mul_one]
    show (bs xs ++ rest).take n = bs xs
    rw [List.take_append_of_le_length (by rw [bs_length]; omega), List.take_of_length_le (by rw [bs_length]; omega)]
theorem blk_of_own {w : World} {base n : Nat} {v : Value} {xs : List Nat} (h : w.ownsRow base 5 1 v n (bs xs)) (h0 : 0 < n) : ∃ g C, v = .slice (some ⟨g, 0, none⟩) n C ∧ n ≤ C ∧ C ≤ maxLen ∧ Blk w g C xs := by
  rcases h.2 with ⟨h1, h2⟩ | ⟨g, cap, cur, hv, hb, hh, hle, hmax, hsz, htake⟩
  · omega
  · have hl := h.1
    rw [bs_length] at hl
    refine ⟨g, cap, hv, hle, hmax, cur.toList.drop n, ?_, ?_⟩
    · rw [List.length_drop]; have := Array.length_toList (xs := cur); simp only [Nat.mul_one] at hsz; omega
    · rw [Nat.mul_one] at htake
      rw [hh, ← htake, List.take_append_drop]
theorem bs_cells {w : World} {g M : Nat} {xs : List Nat} (h : Blk w g M xs) (j : Nat) (u : Value) (hj : (bs xs)[j]? = some u) : w.cell? ((⟨g, 0, none⟩ : Addr).add j) = some u := by
  have hj' : j < xs.length := by
    have := (List.getElem?_eq_some_iff.1 hj).1
    rwa [bs_length] at this
  rw [bs_get hj'] at hj
  have := h.cell hj'
  unfold Addr.add
  by_cases h00 : j = 0
  · subst h00; simpa using this.trans hj
  · simp only [if_neg h00, Nat.zero_add]; exact this.trans hj
theorem bs_one (xs : List Nat) : ∀ u ∈ bs xs, u.oneCell' = true := fun u hu => by
  obtain ⟨x, _, rfl⟩ := List.mem_map.1 hu
  rfl

def Grown (w : World) (B g N H : Nat) (Z xs : List Nat) (s : St) (w' : World) : Prop := ∃ g' C', (g' = g ∨ w.heap.size ≤ g') ∧ N * 2 ≤ C' ∧ C' ≤ maxLen ∧
      w'.heap[B]? = some (.cells (s.cells g' (N * 2) C' H) 95 (0, 0)) ∧ Blk w' g' C' ((Z ++ xs) ++ (Z ++ xs)) ∧ Wr [B, g] w w'
set_option maxRecDepth 100000 in
set_option maxHeartbeats 1000000 in
theorem grow (w : World) (B g N H : Nat) (Z xs : List Nat) (s : St) (h : BdZ w B g N N H Z xs s) (h0 : 0 < N) (hN2 : N * 2 ≤ 1000000) :
    Calls Tryz.prog 92 #[.pointer (some ⟨B, 0, none⟩)] w fun e w' => e = .returned (.tuple #[]) ∧ Grown w B g N H Z xs s w' := by
  have c0 : w.cell? ⟨B, 0, none⟩ = some (.slice (some ⟨g, 0, none⟩) N N) := h.cell 0
  have f0 := h.free 0
  have cA : ∀ O, (w.alloc O).cell? ⟨B, 0, none⟩ = some (.slice (some ⟨g, 0, none⟩) N N) := fun O => by rw [World.cell?_alloc_lt w O _ h.lt]; exact c0
  have A1 := and_top N (by omega)
  obtain ⟨N2, hN2'⟩ : ∃ N2, N2 = N + N := ⟨_, rfl⟩
  have s1 : (N : Int) * 2 = (N2 : Int) := by omega
  have s2 : (N2 : Int) - (N : Int) = (N : Int) := by omega
  have s3 : (N2 : Int) / 2 = (N : Int) := by omega
  have s4 : ((N2 : Int) == 0) = false := by simp; omega
  have hlt : ¬ (N2 : Int) ≤ (N : Int) := by omega
  obtain ⟨i5, hi, hz0, hz1, hz2⟩ := info_parts info5
  have hl : (Z ++ xs).length = N := by rw [List.length_append, h.hZ, h.hN]
  have hO : ∀ O, (w.alloc O).ownsRow 0 5 1 (.slice (some ⟨g, 0, none⟩) N N) N (bs (Z ++ xs)) := fun O => own_of_blk (h.buf.later (S := []) (Wr.of_below ((Below.refl _ _).alloc (Nat.le_refl _) _)) (by simp)) hl (by unfold maxLen; omega)
  have OW := Lib.hid hO
  have BN := Lib.hid (show Blk (w.alloc (.cells (bs (List.replicate N 0)).toArray 5)) w.heap.size N (List.replicate N 0) from ⟨[], by simp, by rw [List.append_nil]; exact heap_alloc_new _ _⟩)
  have HH := Lib.hid h
  have HN := Lib.hid hN2'
  have b1 : N2 ≤ 1000000 := by omega
  have b0 : N ≤ 500000 := by omega
  have HL := Lib.hid hl
  clear h hN2' hN2 hO hl
  go_enter Tryz.func92, Tryz.ntmps92
  go_wp2_with (first
    | (at_make; refine wpList_make_row _ rfl _ _ 26 rfl 5 i5 (.int .u8 0) Tryz.underlying26 hi hz0 hz1 rfl .i64 .i64 N rfl rfl (by rw [hz2]; omega) (by omega) ?_; rw [made_bs])
    | (at_builtin; go_loud (refine wpList_append_own_at _ rfl (.tmp 49) (.tmp 50) 26 rfl 0 5 i5 (.int .u8 0) 1 1 Tryz.underlying26 hi hz0 hz1 hz2 rfl (by decide) (.slice (some ⟨g, 0, none⟩) N N) N (bs (Z ++ xs)) rfl (OW.out _) ⟨w.heap.size, 0, none⟩ N N (bs (List.replicate N 0)) rfl (by simp [bs]) (bs_cells BN.out) (bs_one _) (by unfold maxLen; omega) (by omega) (Nat.zero_le _) ?_; intro v3 w3 hown hgrow hnil hat; rw [← bs_append, ← HN.out] at hown; obtain ⟨g3, C3, rfl, hC3, hM3, hb3⟩ := blk_of_own hown (by omega); have hr3 := (hgrow.block B (Nat.lt_of_lt_of_le HH.out.lt (by simp)) (by simpa [Value.ownBlock] using HH.out.hne)).trans ((Below.heap_alloc _ _ _ HH.out.lt).trans HH.out.row); have f3 : w3.frozen? ⟨B, 0, none⟩ = false := (by simp [World.frozen?, hr3]); have g0 : w3.cell? ⟨B, 0, none⟩ = some (.slice (some ⟨g, 0, none⟩) N N) := (by simp only [World.cell?, hr3]; rfl); have HR3 := Lib.hid hr3; have HB3 := Lib.hid hb3; have HG3 := Lib.hid hgrow; have HAT := Lib.hid hat; clear hr3 hb3 hgrow hat hown hnil)))
  have hC3' : N ≤ N2 := by have := HN.out; omega
  have C1 := cutLo (k := .i64) g3 N2 C3 N hC3' hC3 (by have := HN.out; omega)
  have C2 := cutHi (k := .i64) g3 N2 C3 N hC3' hC3
  have hne3 : B ≠ g3 := by
    have := HH.out.lt
    have := HH.out.hne
    rcases HAT.out with h1 | h1
    · simp [Value.ownBlock] at h1; omega
    · simp [Value.ownBlock] at h1; omega
  have r4 : (w3.setCell ⟨B, 0, none⟩ (.slice (some ⟨g3, 0, none⟩) N2 C3)).heap[B]? = some (.cells (s.cells g3 N2 C3 H) 95 (0, 0)) := by
    simp [World.setCell, Array.getElem?_modify, HR3.out, St.cells]
  have b4 : Blk (w3.setCell ⟨B, 0, none⟩ (.slice (some ⟨g3, 0, none⟩) N2 C3)) g3 C3 (Z ++ xs ++ List.replicate N 0) := HB3.out.other hne3
  have w4 : Wr [B, g] w (w3.setCell ⟨B, 0, none⟩ (.slice (some ⟨g3, 0, none⟩) N2 C3)) := by
    have h1 : Wr [B, g] w (w.alloc (.cells (bs (List.replicate N 0)).toArray 5)) := Wr.of_below ((Below.refl _ _).alloc (Nat.le_refl _) _)
    have h2 : Wr [g] (w.alloc (.cells (bs (List.replicate N 0)).toArray 5)) w3 := ⟨HG3.out.os, HG3.out.tape, HG3.out.output, HG3.out.size, fun k hk hn => HG3.out.block k hk (by simpa [Value.ownBlock] using hn)⟩
    exact (h1.trans (h2.more (by simp))).trans (Wr.setCell _ _ (by simp))
  generalize w3.setCell ⟨B, 0, none⟩ (.slice (some ⟨g3, 0, none⟩) N2 C3) = W4 at *
  have d0 : W4.cell? ⟨B, 0, none⟩ = some (.slice (some ⟨g3, 0, none⟩) N2 C3) := by simp only [World.cell?, r4]; rfl
  have R4 := Lib.hid r4
  have B4 := Lib.hid b4
  have HW4 := Lib.hid w4
  clear r4 b4 w4
  refine region_quiet_tail 12 (C := fun w' => ∃ m, w' = W4.drewN m) (by kernel_rfl) (by kernel_rfl) ⟨1, rfl⟩ ?_
  simp only [List.take_succ_cons, List.take_zero, List.drop_succ_cons, List.drop_zero]
  iterate 12 go_big_quiet_step (fail)
  refine wpQuiet_nil ?_
  rintro _ ⟨m, rfl⟩
  have B5 := Lib.hid (B4.out.later (S := []) ((Wr.refl _ _).drewN m) (by simp))
  have hb5 : ∀ x ∈ Z ++ xs, x < 256 := fun x hx => by
    rcases List.mem_append.1 hx with hx | hx
    · exact HH.out.zb x hx
    · exact HH.out.byte x hx
  have R5 : Hid (RB (W4.drewN m) (some ⟨g3, 0, none⟩) N C3 (Z ++ xs)) := Lib.hid ⟨HL.out, by omega, hM3, hb5, fun _ => ⟨g3, 0, rfl, fun i hi => by
    rw [Nat.zero_add, B5.out.cell (by rw [List.length_append]; omega)]
    simp only [List.getD_eq_getElem?_getD, List.getElem?_append_left hi]⟩⟩
  clear hb5
  have K1 := Lib.hid (show N = Nat.min N (N2 - N) from (Nat.min_eq_left (by have := HN.out; omega)).symm)
  have K2 := Lib.hid (show N + N ≤ (Z ++ xs ++ List.replicate N 0).length by rw [List.length_append, HL.out, List.length_replicate]; exact Nat.le_refl _)
  refine copy_blk B5 rfl (.tmp 61) (.tmp 67) 26 26 rfl 5 Tryz.underlying26 size5 (some ⟨g3, N, none⟩) (N2 - N) (C3 - N) rfl (some ⟨g3, 0, none⟩) N C3 rfl R5 N K1.out (fun _ => rfl) K2.out ?_
  intro w6 H6 W6
  go_wp2_with fail
  go_end0
  have e2 : N * 2 = N2 := by have := HN.out; omega
  unfold Grown
  rw [e2]
  refine ⟨rfl, g3, C3, ?_, hC3, hM3, ?_, ?_, ?_⟩
  · rcases HAT.out with h1 | h1
    · simp [Value.ownBlock] at h1; exact Or.inl h1
    · simp [Value.ownBlock] at h1; right; omega
  · rw [← R4.out]
    exact W6.out.block B (by
      rcases Nat.lt_or_ge B W4.heap.size with h' | h'
      · exact h'
      · have := R4.out; rw [Array.getElem?_eq_none h'] at this; cases this) (by simpa using hne3)
  · have h6 := H6.out
    have e : put (Z ++ xs ++ List.replicate N 0) N ((Z ++ xs).take N) = (Z ++ xs) ++ (Z ++ xs) := by
      rw [List.take_of_length_le (by rw [HL.out]; exact Nat.le_refl _)]
      have h7 := put_at (Z ++ xs) (List.replicate N 0) [] (Z ++ xs) N HL.out (by rw [List.length_replicate, HL.out])
      simpa using h7
    rw [e] at h6
    exact h6
  · refine (HW4.out.trans ((Wr.refl _ _).drewN m)).then W6.out fun x hx => ?_
    obtain rfl : x = g3 := by simpa using hx
    rcases HAT.out with h1 | h1
    · simp [Value.ownBlock] at h1; left; simp [h1]
    · simp [Value.ownBlock] at h1; right; omega
end Go.Proofs.YtegohkgmamnkdaaGreat.Msg
