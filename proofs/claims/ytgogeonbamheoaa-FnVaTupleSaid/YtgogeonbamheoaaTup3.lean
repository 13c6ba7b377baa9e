/- The specification's tuple of some fields, walked. Conditions: at most 200 fields, 20000 bytes. -/
import Derived.Test.YtgogeonbamheoaaTup2
set_option linter.unusedVariables false
namespace Go.Proofs.Ytgogeonbamheoaa.Tup
open Go.ChangeShapes Go.WideShapes Go.ChangeAt Go.RowKit
open Go.Proofs.Ytgogeonbamheoaa.Dig Go.Proofs.Ytgogeonbamheoaa.Mem Go.Proofs.Ytgogeonbamheoaa.Rb Go.Proofs.Ytgogeonbamheoaa.Sl Go.Proofs.Ytgogeonbamheoaa.Tri

def pr (n : Nat) : List Nat := [n % 256, n / 256]
def cat : List Fld → List Nat
  | [] => []
  | f :: fs => f.xs ++ cat fs
theorem cat_append : ∀ fs gs, cat (fs ++ gs) = cat fs ++ cat gs
  | [], gs => by simp [cat]
  | f :: fs, gs => by simp [cat, cat_append fs gs]
/-- Where the fields but the first begin. -/
def ofk (fs : List Fld) : Nat → List Nat
  | 0 => []
  | k + 1 => ofk fs k ++ (if k = 0 then [] else pr (total (fs.take k)))
/-- Two rows of the call's own that do not meet. -/
def Apart (v u : Value) : Prop := v.ownBlock = none ∨ u.ownBlock = none ∨ v.ownBlock ≠ u.ownBlock
theorem kept {w w' : World} {B n : Nat} {v u : Value} {xs : List Value} (h : w.ownsRow B 5 1 u n xs) (hg : w.grownBy w' v.ownBlock ∨ w' = w) (ha : Apart v u) : w'.ownsRow B 5 1 u n xs := by
  rcases hg with hg | rfl
  · refine h.kept hg ?_
    rcases ha with h0 | h0 | h0
    · rcases hu : u.ownBlock with _ | g
      · exact Or.inl rfl
      · exact Or.inr (by rw [h0]; simp)
    · exact Or.inl h0
    · exact Or.inr fun e => h0 e.symm
  · exact h
theorem Apart.grown {w : World} {B n : Nat} {v v' u : Value} {xs : List Value} (ha : Apart v u) (h : w.ownsRow B 5 1 u n xs) (hv : v'.ownBlock = v.ownBlock ∨ v'.ownBlock = some w.heap.size) : Apart v' u := by
  rcases hv with e | e
  · unfold Apart; rw [e]; exact ha
  · rcases hu : u.ownBlock with _ | g
    · exact Or.inr (Or.inl hu)
    · have := (h.lt g hu).2
      exact Or.inr (Or.inr (by rw [e, hu]; intro h; injection h with h; omega))
theorem Apart.symm {v u : Value} (h : Apart v u) : Apart u v := by
  rcases h with h | h | h
  · exact Or.inr (Or.inl h)
  · exact Or.inl h
  · exact Or.inr (Or.inr fun e => h e.symm)
theorem own_nc {w : World} {B n c : Nat} {a : Option Addr} {xs : List Value} (h : w.ownsRow B 5 1 (.slice a n c) n xs) (ha : a = none) : c = 0 := by
  rcases h.2 with ⟨h0, _⟩ | ⟨g, cap, cur, hv, _⟩
  · injection h0
  · injection hv with e1; rw [ha] at e1; cases e1
theorem ofk_byte (fs : List Fld) (ht : total fs ≤ 65535) : ∀ k, ∀ x ∈ ofk fs k, x < 256
  | 0 => by simp [ofk]
  | k + 1 => by
    intro x hx
    have h1 := total_append (fs.take k) (fs.drop k)
    rw [List.take_append_drop] at h1
    simp only [ofk, List.mem_append] at hx
    rcases hx with h | h
    · exact ofk_byte fs ht k x h
    · split at h
      · simp at h
      · simp only [pr, List.mem_cons, List.not_mem_nil, or_false] at h
        rcases h with rfl | rfl <;> omega
theorem cat_byte {w : World} : ∀ {fs : List Fld}, (∀ f ∈ fs, FldOk w f) → ∀ x ∈ cat fs, x < 256
  | [], _ => by simp [cat]
  | f :: fs, h => by
    intro x hx
    simp only [cat, List.mem_append] at hx
    rcases hx with h1 | h1
    · exact (h f (List.mem_cons_self ..)).1.byte x h1
    · exact cat_byte (fun g hg => h g (List.mem_cons_of_mem _ hg)) x h1
theorem total_take {fs : List Fld} (k : Nat) : total (fs.take k) ≤ total fs := by
  have := total_append (fs.take k) (fs.drop k)
  rw [List.take_append_drop] at this
  omega

theorem pr_rb (w : World) (n : Nat) (hn : n ≤ 65535) : RB (w.alloc (.cells (bs [n % 256, n / 256]).toArray 5)) (some ⟨w.heap.size, 0, none⟩) 2 2 (pr n) := by
  refine ⟨rfl, Nat.le_refl _, by unfold maxLen; omega, ?_, fun _ => ⟨w.heap.size, 0, rfl, bytes_of (xs := pr n) (heap_alloc_new _ _)⟩⟩
  intro x hx
  simp only [pr, List.mem_cons, List.not_mem_nil, or_false] at hx
  rcases hx with rfl | rfl <;> omega

set_option maxRecDepth 100000 in
set_option maxHeartbeats 1000000 in
theorem specTuple (w : World) (a : Option Addr) (n c : Nat) (fs : List Fld) (h : Flds w a n c fs) (hn : n ≤ 200) (ht : total fs ≤ 20000) :
    Calls Try.prog 13 #[.slice a n c] w fun e w' => ∃ a' n' c', e = .returned (.slice a' n' c') ∧ RB w' a' n' c' (cat fs ++ ofk fs n ++ pr n) ∧ Below w.heap.size w w' := by
  have H := Lib.hid h
  have hc := h.le
  have hct := h.top
  unfold maxLen at hct
  have HT := Lib.hid ht
  clear h ht
  go_enter Try.func13, Try.ntmps13
  go_wp2_with fail
  go_loopw [3, 4, 9] (fun ov fv iv wr => ∃ k m1 m2 : Nat, k ≤ n ∧ m2 ≤ 2 * k ∧ iv = .int .i64 (k : Int) ∧ m1 = total (fs.take k) ∧ wr.ownsRow w.heap.size 5 1 ov m1 (bs (cat (fs.take k))) ∧ wr.ownsRow w.heap.size 5 1 fv m2 (bs (ofk fs k)) ∧ Apart ov fv ∧ Below w.heap.size w wr) (fun _ _ iv _ => n - (intOf iv).toNat)
  case atStart => exact ⟨0, 0, 0, by omega, by omega, rfl, rfl, ⟨by simp [cat, bs], Or.inl ⟨rfl, rfl⟩⟩, ⟨by simp [ofk, bs], Or.inl ⟨rfl, rfl⟩⟩, Or.inl rfl, Below.refl _ _⟩
  case round =>
    obtain ⟨k, m1, m2, hk, hm2, rfl, hm1, ho1, ho2, hap, hbel⟩ := hrel
    have hm1b : m1 ≤ 20000 := by rw [hm1]; exact Nat.le_trans (total_take k) HT.out
    have O1 := Lib.hid ho1
    have O2 := Lib.hid ho2
    have AP := Lib.hid hap
    have BL := Lib.hid hbel
    have M1 := Lib.hid hm1
    have hws := hbel.size
    clear ho1 ho2 hap hbel hm1
    by_cases hlt : k < n
    · obtain ⟨b, o, ea, hb2, hcell⟩ := H.out.at_ (by omega)
      subst ea
      obtain ⟨f, hf⟩ : ∃ f, f = fs.getD k nof := ⟨_, rfl⟩
      have gx : wr.cell? ⟨b, o + k, none⟩ = some (.slice f.a f.n f.c) := by rw [hf]; exact (BL.out.cell (p := ⟨b, o + k, none⟩) hb2).trans (hcell k hlt)
      have hfm : f ∈ fs := by rw [hf]; exact getD_mem (by rw [H.out.len]; exact hlt)
      have hfok := H.out.ok f hfm
      have hfn : m1 + f.n ≤ 20000 := by
        have h1 := total_take (fs := fs) (k + 1)
        rw [take_more (by rw [H.out.len]; exact hlt), total_append, ← hf, ← M1.out] at h1
        simp only [total] at h1
        have := HT.out
        omega
      have FR := Lib.hid hfok.1
      have HF := Lib.hid hf
      have NC := Lib.hid hfok.2
      clear hcell hf hfm hfok
      obtain ⟨a1, c1, rfl⟩ := Tri.own_form O1.out
      obtain ⟨a2, c2, rfl⟩ := Tri.own_form O2.out
      by_cases hk0 : k = 0
      · subst hk0
        simp only [Nat.add_zero] at gx
        go_wp2_with ((with_reducible refine append_rb2 O1 BL rfl (.tmp 21) (.tmp 22) rfl rfl f.a f.n f.c rfl (FR.out.below BL.out (Nat.le_refl _)) NC.out (by omega) hws ?_); intro v1 w1 P1 Q1 G1 E1; have O2' := Lib.hid (kept O2.out G1.out AP.out); have AP3 := Lib.hid (AP.out.grown O2.out E1.out))
        go_roundw
        case rel =>
          refine ⟨0 + 1, m1 + f.n, m2, by omega, by omega, by simp, ?_, ?_, ?_, AP3.out, Q1.out⟩
          · rw [take_more (by rw [H.out.len]; exact hlt), total_append, ← HF.out, ← M1.out]; simp [total]
          · rw [take_more (by rw [H.out.len]; exact hlt), cat_append, ← HF.out]
            have := P1.out
            simpa [cat] using this
          · simpa [ofk] using O2'.out
        case measure => simp [intOf]; omega
      · have hk1 : 0 < k := by omega
        go_wp2_with (first
          | (go_at_call 30; (with_reducible refine (pair16 _ m1 (by omega)).mono ?_); rintro e wp ⟨rfl, rfl⟩)
          | ((with_reducible refine append_rb2 (ys := pr m1) (Lib.hid (O2.out.alloc _)) (Lib.hid (BL.out.alloc hws _)) rfl (.tmp 16) (.tmp 19) rfl rfl (some ⟨wr.heap.size, 0, none⟩) 2 2 rfl (pr_rb wr m1 (by omega)) (by intro h; cases h) (by omega) (by simp; omega) ?_); intro v2 w1 P2 Q2 G2 E2; have O1' := Lib.hid (kept (O1.out.alloc _) G2.out AP.out.symm); have AP2 := Lib.hid (AP.out.symm.grown (O1.out.alloc _) E2.out); obtain ⟨a2', c2', e2⟩ := Tri.own_form P2.out; subst e2)
          | ((with_reducible refine append_rb2 O1' Q2 rfl (.tmp 21) (.tmp 22) rfl rfl f.a f.n f.c rfl (FR.out.below Q2.out (Nat.le_refl _)) NC.out (by omega) Q2.out.size ?_); intro v1 w2 P1 Q1 G1 E1; have O2' := Lib.hid (kept P2.out G1.out AP2.out.symm); have AP3 := Lib.hid (AP2.out.symm.grown P2.out E1.out)))
        go_roundw
        case rel =>
          refine ⟨k + 1, m1 + f.n, m2 + 2, by omega, by omega, by go_num, ?_, ?_, ?_, AP3.out, Q1.out⟩
          · rw [take_more (by rw [H.out.len]; exact hlt), total_append, ← HF.out, ← M1.out]; simp [total]
          · rw [take_more (by rw [H.out.len]; exact hlt), cat_append, ← HF.out]
            have := P1.out
            simpa [cat] using this
          · rw [ofk, if_neg hk0, ← M1.out]; exact O2'.out
        case measure => simp [intOf]; omega
    · obtain rfl : k = n := by omega
      obtain ⟨a1, c1, rfl⟩ := Tri.own_form O1.out
      obtain ⟨a2, c2, rfl⟩ := Tri.own_form O2.out
      have htb : total fs ≤ 65535 := by have := HT.out; omega
      have R2 := Lib.hid (RB.of_own O2.out (ofk_byte fs htb k))
      have N2 := Lib.hid (own_nc O2.out)
      have ho1 := O1.out
      rw [List.take_of_length_le (by rw [H.out.len]; exact Nat.le_refl _)] at ho1
      have O1 := Lib.hid ho1
      clear ho1
      go_wp2_with (first
        | (go_at_call 30; (with_reducible refine (pair16 _ k (by omega)).mono ?_); rintro e wp ⟨rfl, rfl⟩)
        | ((with_reducible refine append_rb2 O1 BL rfl (.tmp 25) (.tmp 26) rfl rfl a2 m2 c2 rfl R2.out N2.out (by omega) hws ?_); intro v1 w1 P1 Q1 G1 E1; obtain ⟨a3, c3, e3⟩ := Tri.own_form P1.out; subst e3; have hw1 := Q1.out.size)
        | ((with_reducible refine append_rb2 (ys := pr k) (Lib.hid (P1.out.alloc _)) (Lib.hid (Q1.out.alloc hw1 _)) rfl (.tmp 27) (.tmp 30) rfl rfl (some ⟨w1.heap.size, 0, none⟩) 2 2 rfl (pr_rb w1 k (by omega)) (by intro h; cases h) (by omega) (by simp; omega) ?_); intro v2 w2 P2 Q2 G2 E2; obtain ⟨a4, c4, e4⟩ := Tri.own_form P2.out; subst e4))
      go_ret
      refine ⟨_, _, _, rfl, RB.of_own P2.out ?_, Q2.out⟩
      intro x hx
      simp only [List.mem_append, pr, List.mem_cons, List.not_mem_nil, or_false] at hx
      rcases hx with (h | h) | h | h
      · exact cat_byte H.out.ok x h
      · exact ofk_byte fs htb k x h
      all_goals omega
end Go.Proofs.Ytgogeonbamheoaa.Tup
