/- The making of a tuple, walked. Conditions: at most 200 fields, 20000 bytes. -/
import Derived.Test.YtgogeonbamheoaaTup9
set_option linter.unusedVariables false
namespace Go.Proofs.Ytgogeonbamheoaa.Tup
open Go.ChangeShapes Go.WideShapes Go.ChangeAt Go.RowKit
open Go.Proofs.Ytgogeonbamheoaa.Dig Go.Proofs.Ytgogeonbamheoaa.Mem Go.Proofs.Ytgogeonbamheoaa.Rb Go.Proofs.Ytgogeonbamheoaa.Sl Go.Proofs.Ytgogeonbamheoaa.Tri

/-- The row while it is made: j fields copied, i of the places written. -/
def rowA (fs : List Fld) (k T j i : Nat) : List Nat := cat (fs.take j) ++ (List.replicate (T - total (fs.take j)) 0 ++ (ofk fs i ++ (List.replicate (offs k - (ofk fs i).length) 0 ++ pr k)))
theorem set2_mid (A R : List Nat) (m p q E : Nat) (h : A.length = E) : ((A ++ (List.replicate (m + 2) 0 ++ R)).set E p).set (E + 1) q = A ++ ([p, q] ++ (List.replicate m 0 ++ R)) := by
  subst h
  simp [List.replicate_succ]
theorem take_lens {w : World} {fs : List Fld} (hok : ∀ f ∈ fs, FldOk w f) (j : Nat) : (cat (fs.take j)).length = total (fs.take j) :=
  cat_length _ fun f hf => (hok f (List.mem_of_mem_take hf)).1.len
theorem rowA_off {w : World} (fs : List Fld) (hok : ∀ f ∈ fs, FldOk w f) (k T j : Nat) (hj0 : 0 < j) (hj : j < k) (hT : total (fs.take j) ≤ T) :
    ((rowA fs k T j j).set (T + 2 * (j - 1)) (total (fs.take j) % 256)).set (T + 2 * (j - 1) + 1) (total (fs.take j) / 256) = rowA fs k T j (j + 1) := by
  unfold rowA
  obtain ⟨m, hm⟩ : ∃ m, m = offs k - (ofk fs (j + 1)).length := ⟨_, rfl⟩
  have hl := ofk_length fs j
  have hl1 := ofk_length fs (j + 1)
  have hm2 : offs k - (ofk fs j).length = m + 2 := by rw [hm, hl, hl1]; unfold offs; omega
  rw [hm2, ← hm]
  have e := set2_mid (cat (fs.take j) ++ (List.replicate (T - total (fs.take j)) 0 ++ ofk fs j)) (pr k) m (total (fs.take j) % 256) (total (fs.take j) / 256) (T + 2 * (j - 1)) (by
    simp only [List.length_append, List.length_replicate, take_lens hok, hl]; omega)
  simp only [List.append_assoc] at e
  rw [e]
  simp only [ofk, if_neg (by omega : ¬ j = 0), pr, List.append_assoc]
theorem rowA_length {w : World} (fs : List Fld) (hok : ∀ f ∈ fs, FldOk w f) (k T j i : Nat) (hi : i ≤ k) (hT : total (fs.take j) ≤ T) : (rowA fs k T j i).length = T + offs k + 2 := by
  unfold rowA
  have hl := ofk_length fs i
  simp only [List.length_append, List.length_replicate, take_lens hok, hl, pr, List.length_cons, List.length_nil]
  unfold offs
  omega
/-- The place of field j written, if it has one. -/
theorem offsetStep (w wr : World) (g k T j C : Nat) (fs : List Fld) (hok : ∀ f ∈ fs, FldOk w f) (hk : k ≤ 200) (hj : j < k) (hT : total (fs.take j) ≤ T) (hTb : T ≤ 20000) (hC : C = offs k + 2) (hO : Own w wr g (rowA fs k T j j)) :
    Calls Try.prog 36 #[.int .i64 (j : Int), .int .u16 ((total (fs.take j) : Nat) : Int), .slice (some ⟨g, T, none⟩) (offs k) C] wr fun e w' => e = .returned (.tuple #[]) ∧ Own w w' g (rowA fs k T j (j + 1)) := by
  by_cases h0 : j = 0
  · subst h0
    refine (writeNone wr _ _ _ _).mono ?_
    rintro e w' ⟨rfl, rfl⟩
    exact ⟨rfl, hO⟩
  · refine (writeOffset w wr g T (offs k) C j _ _ hO (by omega) (by unfold offs; omega) (by omega) (by rw [hC]; unfold offs; omega) ?_ (by omega) (by omega)).mono ?_
    · rw [rowA_length fs hok k T j j (by omega) hT]; omega
    · rintro e w' ⟨rfl, h⟩
      rw [rowA_off fs hok k T j (by omega) hj hT] at h
      exact ⟨rfl, h⟩
theorem rowA_null (fs : List Fld) (k T j i : Nat) (f : Fld) (hj : j < fs.length) (hf : f = fs.getD j nof) (hn : f.n = 0) (hx : f.xs = []) : rowA fs k T j i = rowA fs k T (j + 1) i := by
  unfold rowA
  rw [take_more hj, cat_append, total_append, ← hf]
  simp [cat, total, hn, hx]
theorem rowA_copy0 (fs : List Fld) (k T j i : Nat) (f : Fld) (hj : j < fs.length) (hf : f = fs.getD j nof) (hl : f.xs.length = f.n) (hT : total (fs.take (j + 1)) ≤ T) :
    rowA fs k T j i = cat (fs.take j) ++ (List.replicate f.xs.length 0 ++ (List.replicate (T - total (fs.take (j + 1))) 0 ++ (ofk fs i ++ (List.replicate (offs k - (ofk fs i).length) 0 ++ pr k)))) := by
  unfold rowA
  rw [take_more hj, total_append, ← hf] at hT ⊢
  simp only [total, Nat.add_zero] at hT ⊢
  rw [← List.append_assoc (List.replicate f.xs.length 0), List.replicate_append_replicate, hl]
  congr 3
  omega
theorem rowA_copy1 (fs : List Fld) (k T j i : Nat) (f : Fld) (hj : j < fs.length) (hf : f = fs.getD j nof) :
    cat (fs.take j) ++ (f.xs ++ (List.replicate (T - total (fs.take (j + 1))) 0 ++ (ofk fs i ++ (List.replicate (offs k - (ofk fs i).length) 0 ++ pr k)))) = rowA fs k T (j + 1) i := by
  unfold rowA
  rw [take_more hj, cat_append, ← hf]
  simp [cat]
theorem rowA_end (fs : List Fld) (k T : Nat) (hk : fs.length = k) (hT : T = total fs) : rowA fs k T k k = cat fs ++ ofk fs k ++ pr k := by
  unfold rowA
  rw [List.take_of_length_le (by omega), ofk_length, hT]
  unfold offs
  simp

set_option maxRecDepth 100000 in
set_option maxHeartbeats 1000000 in
theorem newTuple (w : World) (a : Option Addr) (n c T : Nat) (fs : List Fld) (h : Flds w a n c fs) (hn : n ≤ 200) (ht : total fs ≤ 20000) (hT : T = total fs) :
    Calls Try.prog 24 #[.iface 54 (.int .u8 0), .slice a n c] w fun e w' => ∃ g N, e = .returned (.slice (some ⟨g, 0, none⟩) N N) ∧ N = T + offs n + 2 ∧ Own w w' g (cat fs ++ ofk fs n ++ pr n) := by
  have H := Lib.hid h
  have hc := h.le
  have hct := h.top
  unfold maxLen at hct
  have HT := Lib.hid hT
  have hT2 : T ≤ 20000 := by omega
  clear h ht hT
  go_enter Try.func24, Try.ntmps24
  go_wp2_with fail
  go_loopw [5, 6, 15] (fun cv pv iv wr => ∃ k p m : Nat, k ≤ n ∧ m ≤ k ∧ iv = .int .i64 (k : Int) ∧ cv = .int .i64 (m : Int) ∧ pv = .int .u16 (p : Int) ∧ p = total (fs.take k) ∧ w = wr) (fun _ _ iv _ => n - (intOf iv).toNat)
  case atStart => exact ⟨0, 0, 0, by omega, by omega, rfl, rfl, rfl, rfl, rfl⟩
  case round =>
    obtain ⟨k, p, m, hk, hm, rfl, rfl, rfl, hp, rfl⟩ := hrel
    have hpb : p ≤ 20000 := by have := total_take (fs := fs) k; have := HT.out; omega
    have HP := Lib.hid hp
    clear hp
    by_cases hlt : k < n
    · obtain ⟨b, o, ea, hb2, hcell⟩ := H.out.at_ (by omega)
      subst ea
      obtain ⟨f, hf⟩ : ∃ f, f = fs.getD k nof := ⟨_, rfl⟩
      have gx := fld_at hcell hlt hf
      have hfm : f ∈ fs := by rw [hf]; exact getD_mem (by rw [H.out.len]; exact hlt)
      have hok := H.out.ok f hfm
      have hpf : p + f.n ≤ 20000 := by
        have h1 := total_take (fs := fs) (k + 1)
        rw [take_more (by rw [H.out.len]; exact hlt), total_append, ← hf, ← HP.out] at h1
        simp only [total] at h1
        have := HT.out
        omega
      have hnext : total (fs.take (k + 1)) = p + f.n := by
        rw [take_more (by rw [H.out.len]; exact hlt), total_append, ← hf, ← HP.out]; simp [total]
      have HNX := Lib.hid hnext
      have hz : f.a = none → f.n = 0 := fun h0 => by have := hok.1.le; have := hok.2 h0; omega
      have HZ := Lib.hid hz
      clear hcell hf hfm hok hnext hz
      cases hfa : f.a with
      | none =>
        rw [hfa] at gx
        have hz := HZ.out hfa
        go_wp2_with (go_at_call 33; (with_reducible refine (isNull _ _ _ _).mono ?_); rintro e w1 ⟨rfl, rfl⟩)
        go_roundw
        case rel => exact ⟨k + 1, p, m, by omega, by omega, by go_num, rfl, rfl, by rw [HNX.out, hz]; rfl, trivial⟩
        case measure => simp [intOf]; omega
      | some ad =>
        rw [hfa] at gx
        go_wp2_with (first
          | (go_at_call 33; (with_reducible refine (isNull _ _ _ _).mono ?_); rintro e w1 ⟨rfl, rfl⟩)
          | (go_at_call 34; (with_reducible refine (sizeOf _ _ _ _ (by omega)).mono ?_); rintro e w1 ⟨rfl, rfl⟩))
        go_roundw
        case rel => exact ⟨k + 1, p + f.n, m + 1, by omega, by omega, by go_num, by go_num, by go_num, HNX.out.symm, trivial⟩
        case measure => simp [intOf]; omega
    · obtain rfl : k = n := by omega
      obtain ⟨S, hS⟩ : ∃ S, S = T + offs k := ⟨_, rfl⟩
      obtain ⟨N, hN⟩ : ∃ N, N = S + 2 := ⟨_, rfl⟩
      have hpT : p = T := by rw [HP.out, HT.out, List.take_of_length_le (by rw [H.out.len]; exact Nat.le_refl _)]
      subst hpT
      have q1 : ¬ (4096 : Int) < (k : Int) := by omega
      have q2 : ¬ (65535 : Int) < (p : Int) := by omega
      have K35 := Lib.hid (allocateTuple w p k S N hn hT2 hS hN)
      have HS := Lib.hid hS
      have HN := Lib.hid hN
      clear hS hN
      go_wp2_with (go_at_call 35; (with_reducible refine K35.out.mono ?_); rintro e w1 ⟨rfl, h1⟩; have O0 := Lib.hid h1; clear h1)
      go_loopw [5, 6, 45] (fun cv pv iv wr => ∃ j q : Nat, j ≤ k ∧ iv = .int .i64 (j : Int) ∧ cv = .int .i64 (j : Int) ∧ pv = .int .u16 (q : Int) ∧ q = total (fs.take j) ∧
        Own w wr w.heap.size (rowA fs k p j j)) (fun _ _ iv _ => k - (intOf iv).toNat)
      case atStart =>
        refine ⟨0, 0, by omega, rfl, rfl, rfl, rfl, ?_⟩
        have := O0.out
        rw [HS.out, ← List.replicate_append_replicate, List.append_assoc] at this
        simpa [rowA, cat, ofk, total] using this
      case round =>
        obtain ⟨j, q, hj, rfl, rfl, rfl, hq, hO⟩ := hrel
        have HO := Lib.hid hO
        have HQ := Lib.hid hq
        clear hO hq
        by_cases hlt : j < k
        · obtain ⟨f, hf⟩ : ∃ f, f = fs.getD j nof := ⟨_, rfl⟩
          obtain ⟨b, o, ea, hb2, hcell⟩ := H.out.at_ (by omega)
          subst ea
          have gx : wr.cell? ⟨b, o + j, none⟩ = some f.v := by rw [hf]; exact (HO.out.bel.cell (p := ⟨b, o + j, none⟩) hb2).trans (hcell j hlt)
          unfold Fld.v at gx
          have hfm : f ∈ fs := by rw [hf]; exact getD_mem (by rw [H.out.len]; exact hlt)
          have hok := H.out.ok f hfm
          have hTj := total_take (fs := fs) j
          have hTj1 := total_take (fs := fs) (j + 1)
          rw [← HT.out] at hTj hTj1
          have hnext : total (fs.take (j + 1)) = q + f.n := by
            rw [take_more (by rw [H.out.len]; exact hlt), total_append, ← hf, ← HQ.out]; simp [total]
          have hpf : q + f.n ≤ p := by omega
          have K36 := Lib.hid (offsetStep w wr w.heap.size k p j (N - p) fs H.out.ok hn hlt hTj hT2 (by have := HN.out; have := HS.out; omega) HO.out)
          rw [← HQ.out] at K36
          have HNX := Lib.hid hnext
          have hlf : j < fs.length := by rw [H.out.len]; exact hlt
          have HF := Lib.hid hf
          have HR := Lib.hid hok.1
          have LR := Lib.hid hok.1.len
          have hfle := hok.1.le
          have hftop := hok.1.top
          unfold maxLen at hftop
          have hz : f.a = none → f.n = 0 ∧ f.xs = [] := fun h0 => by
            have h1 := hok.1.le
            have h2 := hok.2 h0
            have h3 := hok.1.len
            exact ⟨by omega, List.length_eq_zero_iff.1 (by omega)⟩
          have HZ := Lib.hid hz
          have HNL := Lib.hid (rowA_null fs k p j (j + 1) f hlf hf)
          have HC0 := Lib.hid (rowA_copy0 fs k p j (j + 1) f hlf hf hok.1.len hTj1)
          have HC1 := Lib.hid (rowA_copy1 fs k p j (j + 1) f hlf hf)
          have HCL := Lib.hid (take_lens H.out.ok j)
          clear hcell hf hfm hok hTj hTj1 hnext hz
          cases hfa : f.a with
          | none =>
            rw [hfa] at gx
            have hz := Lib.hid (HZ.out hfa)
            go_wp2_with (first
              | (go_at_call 36; (with_reducible refine K36.out.mono ?_); rintro e w1 ⟨rfl, h1⟩; have O1 := Lib.hid h1; clear h1)
              | (go_at_call 33; (with_reducible refine (isNull _ _ _ _).mono ?_); rintro e w2 ⟨rfl, rfl⟩))
            go_roundw
            case rel =>
              refine ⟨j + 1, q, by omega, by go_num, by go_num, rfl, by rw [HNX.out, hz.out.1]; rfl, ?_⟩
              rw [← HNL.out hz.out.1 hz.out.2]
              exact O1.out
            case measure => simp [intOf]; omega
          | some ad =>
            rw [hfa] at gx HR
            obtain ⟨q2, hq2⟩ : ∃ q2, q2 = q + f.n := ⟨_, rfl⟩
            have s1 : (q : Int) + (f.n : Int) = (q2 : Int) := by omega
            have hq2b : q2 ≤ 20000 := by omega
            have hNq : q2 ≤ N := by have := HN.out; have := HS.out; omega
            have hcut : ∀ w', (Instr.slice 45 (.slice (some ⟨w.heap.size, 0, none⟩) N N) (some (.int .u16 (q : Int))) (some (.int .u16 (q2 : Int))) none).run Try.prog w' = .ok (.slice (some ⟨w.heap.size, q, none⟩) f.n (N - q)) w' := fun w' => by
              have e45 : Try.prog.elem 45 = 5 := by kernel_rfl
              have := cutA_run (P := Try.prog) (t := 45) (w := w') (by rw [e45]; exact Try.underlying45) (by rw [e45]; exact size1 w') (some ⟨w.heap.size, 0, none⟩) N N .u16 .u16 q q2 (by omega) hNq
              rw [this]
              unfold cutA
              rw [if_neg (by have := HN.out; have := HS.out; omega), show q2 - q = f.n by omega]
              simp only [Option.map_some, addr_add]
            have HQ2 := Lib.hid hq2
            clear hq2
            go_wp2_with (first
              | (go_at_call 36; (with_reducible refine K36.out.mono ?_); rintro e w1 ⟨rfl, h1⟩; rw [HC0.out] at h1; have O1 := Lib.hid h1; have hr1 := Lib.hid (HR.out.below h1.bel (Nat.le_refl _)); clear h1)
              | (go_at_call 33; (with_reducible refine (isNull _ _ _ _).mono ?_); rintro e w2 ⟨rfl, rfl⟩)
              | (go_at_call 34; (with_reducible refine (sizeOf _ _ _ _ (by omega)).mono ?_); rintro e w1 ⟨rfl, rfl⟩)
              | (with_reducible refine copy_mid O1 rfl (.tmp 63) (.tmp 64) 45 22 rfl 5 Try.underlying45 size5 f.n (N - q) q (by rw [HCL.out, HQ.out]) rfl (some ad) f.n f.c rfl hr1.out (Nat.le_refl _) ?_; intro w4 O2))
            go_roundw
            case rel =>
              refine ⟨j + 1, q + f.n, by omega, by go_num, by go_num, by go_num, HNX.out.symm, ?_⟩
              rw [← HC1.out]
              exact O2.out
            case measure => simp [intOf]; omega
        · obtain rfl : j = k := by omega
          go_wp2_with fail
          go_ret
          exact ⟨w.heap.size, N, rfl, by rw [HN.out, HS.out], by rw [← rowA_end fs j p H.out.len HT.out]; exact HO.out⟩
end Go.Proofs.Ytgogeonbamheoaa.Tup
