/- The fields of a map's and of a set's message, walked. Condition: the bytes are a message. -/
import Derived.Test.YtegohkgmamnkdaaGreatRd1
set_option linter.unusedVariables false
namespace Go.Proofs.YtegohkgmamnkdaaGreat.Msg
open Go.ChangeShapes Go.WideShapes Go.ChangeAt Go.RowKit
open Go.Proofs.YtegohkgmamnkdaaGreat.Dig Go.Proofs.YtegohkgmamnkdaaGreat.Mem Go.Proofs.YtegohkgmamnkdaaGreat.Rb

theorem Vec.d0 {T ys : List Nat} {i c : Nat} (V : Vec T i c ys) (ht : T.length ≤ 100000) : unle 4 (T.drop (fld T i + pos T)) ≤ 100000 := by
  have := V.fit
  unfold ind at this
  omega
theorem tbl_of {w w1 : World} {t g o L cc : Nat} {T : List Nat} (h : Tbl w t g o L cc T) (e : ∃ m, w1 = w.drewN m) : Tbl w1 t g o L cc T := by
  obtain ⟨m, rfl⟩ := e
  exact h.drewN m
theorem drew2 {w w1 w2 : World} (h : ∃ m, w1 = w.drewN m) (h2 : ∃ m, w2 = w1.drewN m) : ∃ m, w2 = w.drewN m := by
  obtain ⟨m, rfl⟩ := h
  obtain ⟨k, rfl⟩ := h2
  exact ⟨m + k, by rw [World.drewN_drewN]⟩
theorem unle2_lt : ∀ {l : List Nat}, (∀ x ∈ l, x < 256) → unle 2 l ≤ 65535
  | [], _ => by simp [unle]
  | [x], h => by have := h x (by simp); simp [unle]; omega
  | x :: y :: l, h => by have := h x (by simp); have := h y (by simp); simp [unle]; omega
theorem Tbl.fld_lt {w : World} {t g o L cc : Nat} {T : List Nat} (h : Tbl w t g o L cc T) (i : Nat) : fld T i ≤ 65535 := by
  unfold fld
  split
  · exact unle2_lt fun x hx => h.rb.byte x (List.mem_of_mem_drop hx)
  · omega

set_option maxRecDepth 100000 in
theorem pKI {w : World} {t g o L cc n : Nat} {T : List Nat} (h : Tbl w t g o L cc T) (M : Msgy T n) {c : Nat} {ys : List Nat} (V : Vec T 0 c ys) (hy : ys.length = c) (hc : c ≤ 100000) :
    Calls Tryz.prog 136 #[.pointer (some ⟨t, 0, none⟩)] w fun e w' => e = .returned (.slice (cutA (some ⟨g, o, none⟩) cc (ind T 0 + 4)) c (cc - (ind T 0 + 4))) ∧ ∃ m, w' = w.drewN m := by
  have KO := Lib.hid (tOff h M 0 4 (by decide))
  have h1 := fun w1 (e : ∃ m, w1 = w.drewN m) => tbl_of h e
  have hp := Lib.hid fun w1 (e : ∃ m, w1 = w.drewN m) k => ((h1 w1 e).drewN k).c1
  have ht := h.len
  have ht2 := h.top
  have hpo := h.pos4
  obtain ⟨A, hA⟩ : ∃ A, A = fld T 0 + pos T := ⟨_, rfl⟩
  have K := Lib.hid fun w1 (e : ∃ m, w1 = w.drewN m) k => quiet_left (tBV ((h1 w1 e).drewN k) V hy hc (V.d0 (by omega)) A hA)
  have v2 := V.at_
  have v3 := V.ne
  obtain ⟨F, hF⟩ : ∃ F, F = fld T 0 := ⟨_, rfl⟩
  obtain ⟨P, hP⟩ : ∃ P, P = pos T := ⟨_, rfl⟩
  obtain ⟨J, hJ⟩ : ∃ J, J = ind T 0 + 4 := ⟨_, rfl⟩
  rw [← hF] at KO v3 v2 hA
  rw [← hP] at hp v2 hA
  rw [← hJ] at K ⊢
  have e1 : (F : Int) + (P : Int) = (A : Int) := by omega
  have bA : A ≤ 100000 := by omega
  have F0 : ¬ F = 0 := v3
  have F1 : ¬ (F : Int) = 0 := by omega
  have F2 : ((F : Int) == 0) = false := by simpa using F0
  have bF : F ≤ 65535 := by rw [hF]; exact h.fld_lt 0
  clear h M V hy hA hF hP hJ v2 v3 h1
  go_enter Tryz.func136, Tryz.ntmps136
  go_wp2_with (go_at_call 154; (with_reducible refine KO.out.mono ?_); rintro e w1 ⟨rfl, hw1⟩; have HW := Lib.hid hw1; have hp1 := hp.out w1 hw1; have K1 := Lib.hid (K.out w1 hw1); clear hw1)
  refine region_quiet_tail 11 (C := fun w' => ∃ m, w' = w1.drewN m) (by kernel_rfl) (by kernel_rfl) ⟨1, rfl⟩ ?_
  simp only [List.take_succ_cons, List.take_zero, List.drop_succ_cons, List.drop_zero]
  iterate 11 go_big_quiet_step ((go_at_call 155; exact K1.out _))
  refine wpQuiet_nil ?_
  rintro _ ⟨m, rfl⟩
  go_wp2_with fail
  go_ret
  exact ⟨rfl, drew2 HW.out ⟨m, rfl⟩⟩

set_option maxRecDepth 100000 in
theorem pVI {w : World} {t g o L cc n : Nat} {T : List Nat} (h : Tbl w t g o L cc T) (M : Msgy T n) {c : Nat} {ys : List Nat} (V : Vec T 3 c ys) (hy : ys.length = c) (hc : c ≤ 100000) :
    Calls Tryz.prog 121 #[.pointer (some ⟨t, 0, none⟩)] w fun e w' => e = .returned (.slice (cutA (some ⟨g, o, none⟩) cc (ind T 3 + 4)) c (cc - (ind T 3 + 4))) ∧ ∃ m, w' = w.drewN m := by
  have KO := Lib.hid (tOff h M 3 10 (by decide))
  have h1 := fun w1 (e : ∃ m, w1 = w.drewN m) => tbl_of h e
  have hp := Lib.hid fun w1 (e : ∃ m, w1 = w.drewN m) k => ((h1 w1 e).drewN k).c1
  have ht := h.len
  have ht2 := h.top
  have hpo := h.pos4
  obtain ⟨A, hA⟩ : ∃ A, A = fld T 3 + pos T := ⟨_, rfl⟩
  have K := Lib.hid fun w1 (e : ∃ m, w1 = w.drewN m) k => quiet_left (tBV ((h1 w1 e).drewN k) V hy hc (V.d0 (by omega)) A hA)
  have v2 := V.at_
  have v3 := V.ne
  obtain ⟨F, hF⟩ : ∃ F, F = fld T 3 := ⟨_, rfl⟩
  obtain ⟨P, hP⟩ : ∃ P, P = pos T := ⟨_, rfl⟩
  obtain ⟨J, hJ⟩ : ∃ J, J = ind T 3 + 4 := ⟨_, rfl⟩
  rw [← hF] at KO v3 v2 hA
  rw [← hP] at hp v2 hA
  rw [← hJ] at K ⊢
  have e1 : (F : Int) + (P : Int) = (A : Int) := by omega
  have bA : A ≤ 100000 := by omega
  have F0 : ¬ F = 0 := v3
  have F1 : ¬ (F : Int) = 0 := by omega
  have F2 : ((F : Int) == 0) = false := by simpa using F0
  have bF : F ≤ 65535 := by rw [hF]; exact h.fld_lt 3
  clear h M V hy hA hF hP hJ v2 v3 h1
  go_enter Tryz.func121, Tryz.ntmps121
  go_wp2_with (go_at_call 154; (with_reducible refine KO.out.mono ?_); rintro e w1 ⟨rfl, hw1⟩; have HW := Lib.hid hw1; have hp1 := hp.out w1 hw1; have K1 := Lib.hid (K.out w1 hw1); clear hw1)
  refine region_quiet_tail 11 (C := fun w' => ∃ m, w' = w1.drewN m) (by kernel_rfl) (by kernel_rfl) ⟨1, rfl⟩ ?_
  simp only [List.take_succ_cons, List.take_zero, List.drop_succ_cons, List.drop_zero]
  iterate 11 go_big_quiet_step ((go_at_call 155; exact K1.out _))
  refine wpQuiet_nil ?_
  rintro _ ⟨m, rfl⟩
  go_wp2_with fail
  go_ret
  exact ⟨rfl, drew2 HW.out ⟨m, rfl⟩⟩

set_option maxRecDepth 100000 in
theorem pVI0 {w : World} {t g o L cc n : Nat} {T : List Nat} (h : Tbl w t g o L cc T) (M : Msgy T n) (h0 : fld T 3 = 0) :
    Calls Tryz.prog 121 #[.pointer (some ⟨t, 0, none⟩)] w fun e w' => e = .returned (.slice none 0 0) ∧ ∃ m, w' = w.drewN m := by
  have KO := Lib.hid (tOff h M 3 10 (by decide))
  rw [h0] at KO
  clear h M h0
  go_enter Tryz.func121, Tryz.ntmps121
  go_wp2_with (go_at_call 154; (with_reducible refine KO.out.mono ?_); rintro e w1 ⟨rfl, m1, rfl⟩)
  go_ret
  exact ⟨rfl, m1, rfl⟩

set_option maxRecDepth 100000 in
theorem pAA {w : World} {t g o L cc n : Nat} {T : List Nat} (h : Tbl w t g o L cc T) (M : Msgy T n) {c : Nat} {ys : List Nat} (V : Vec T 7 c ys) (hy : ys.length = c) (hc : c ≤ 100000) :
    Calls Tryz.prog 118 #[.pointer (some ⟨t, 0, none⟩)] w fun e w' => e = .returned (.slice (cutA (some ⟨g, o, none⟩) cc (ind T 7 + 4)) c (cc - (ind T 7 + 4))) ∧ ∃ m, w' = w.drewN m := by
  have KO := Lib.hid (tOff h M 7 18 (by decide))
  have h1 := fun w1 (e : ∃ m, w1 = w.drewN m) => tbl_of h e
  have hp := Lib.hid fun w1 (e : ∃ m, w1 = w.drewN m) k => ((h1 w1 e).drewN k).c1
  have ht := h.len
  have ht2 := h.top
  have hpo := h.pos4
  obtain ⟨A, hA⟩ : ∃ A, A = fld T 7 + pos T := ⟨_, rfl⟩
  have K := Lib.hid fun w1 (e : ∃ m, w1 = w.drewN m) k => quiet_left (tBV ((h1 w1 e).drewN k) V hy hc (V.d0 (by omega)) A hA)
  have v2 := V.at_
  have v3 := V.ne
  obtain ⟨F, hF⟩ : ∃ F, F = fld T 7 := ⟨_, rfl⟩
  obtain ⟨P, hP⟩ : ∃ P, P = pos T := ⟨_, rfl⟩
  obtain ⟨J, hJ⟩ : ∃ J, J = ind T 7 + 4 := ⟨_, rfl⟩
  rw [← hF] at KO v3 v2 hA
  rw [← hP] at hp v2 hA
  rw [← hJ] at K ⊢
  have e1 : (F : Int) + (P : Int) = (A : Int) := by omega
  have bA : A ≤ 100000 := by omega
  have F0 : ¬ F = 0 := v3
  have F1 : ¬ (F : Int) = 0 := by omega
  have F2 : ((F : Int) == 0) = false := by simpa using F0
  have bF : F ≤ 65535 := by rw [hF]; exact h.fld_lt 7
  clear h M V hy hA hF hP hJ v2 v3 h1
  go_enter Tryz.func118, Tryz.ntmps118
  go_wp2_with (go_at_call 154; (with_reducible refine KO.out.mono ?_); rintro e w1 ⟨rfl, hw1⟩; have HW := Lib.hid hw1; have hp1 := hp.out w1 hw1; have K1 := Lib.hid (K.out w1 hw1); clear hw1)
  refine region_quiet_tail 11 (C := fun w' => ∃ m, w' = w1.drewN m) (by kernel_rfl) (by kernel_rfl) ⟨1, rfl⟩ ?_
  simp only [List.take_succ_cons, List.take_zero, List.drop_succ_cons, List.drop_zero]
  iterate 11 go_big_quiet_step ((go_at_call 155; exact K1.out _))
  refine wpQuiet_nil ?_
  rintro _ ⟨m, rfl⟩
  go_wp2_with fail
  go_ret
  exact ⟨rfl, drew2 HW.out ⟨m, rfl⟩⟩

set_option maxRecDepth 100000 in
theorem pAA0 {w : World} {t g o L cc n : Nat} {T : List Nat} (h : Tbl w t g o L cc T) (M : Msgy T n) (h0 : fld T 7 = 0) :
    Calls Tryz.prog 118 #[.pointer (some ⟨t, 0, none⟩)] w fun e w' => e = .returned (.slice none 0 0) ∧ ∃ m, w' = w.drewN m := by
  have KO := Lib.hid (tOff h M 7 18 (by decide))
  rw [h0] at KO
  clear h M h0
  go_enter Tryz.func118, Tryz.ntmps118
  go_wp2_with (go_at_call 154; (with_reducible refine KO.out.mono ?_); rintro e w1 ⟨rfl, m1, rfl⟩)
  go_ret
  exact ⟨rfl, m1, rfl⟩

set_option maxRecDepth 100000 in
theorem pSC {w : World} {t g o L cc n : Nat} {T : List Nat} (h : Tbl w t g o L cc T) (M : Msgy T n) {c : Nat} {ys : List Nat} (V : Vec T 8 c ys) (hy : ys.length = c) (hc : c ≤ 100000) :
    Calls Tryz.prog 176 #[.pointer (some ⟨t, 0, none⟩)] w fun e w' => e = .returned (.slice (cutA (some ⟨g, o, none⟩) cc (ind T 8 + 4)) c (cc - (ind T 8 + 4))) ∧ ∃ m, w' = w.drewN m := by
  have KO := Lib.hid (tOff h M 8 20 (by decide))
  have h1 := fun w1 (e : ∃ m, w1 = w.drewN m) => tbl_of h e
  have hp := Lib.hid fun w1 (e : ∃ m, w1 = w.drewN m) k => ((h1 w1 e).drewN k).c1
  have ht := h.len
  have ht2 := h.top
  have hpo := h.pos4
  obtain ⟨A, hA⟩ : ∃ A, A = fld T 8 + pos T := ⟨_, rfl⟩
  have K := Lib.hid fun w1 (e : ∃ m, w1 = w.drewN m) k => quiet_left (tBV ((h1 w1 e).drewN k) V hy hc (V.d0 (by omega)) A hA)
  have v2 := V.at_
  have v3 := V.ne
  obtain ⟨F, hF⟩ : ∃ F, F = fld T 8 := ⟨_, rfl⟩
  obtain ⟨P, hP⟩ : ∃ P, P = pos T := ⟨_, rfl⟩
  obtain ⟨J, hJ⟩ : ∃ J, J = ind T 8 + 4 := ⟨_, rfl⟩
  rw [← hF] at KO v3 v2 hA
  rw [← hP] at hp v2 hA
  rw [← hJ] at K ⊢
  have e1 : (F : Int) + (P : Int) = (A : Int) := by omega
  have bA : A ≤ 100000 := by omega
  have F0 : ¬ F = 0 := v3
  have F1 : ¬ (F : Int) = 0 := by omega
  have F2 : ((F : Int) == 0) = false := by simpa using F0
  have bF : F ≤ 65535 := by rw [hF]; exact h.fld_lt 8
  clear h M V hy hA hF hP hJ v2 v3 h1
  go_enter Tryz.func176, Tryz.ntmps176
  go_wp2_with (go_at_call 154; (with_reducible refine KO.out.mono ?_); rintro e w1 ⟨rfl, hw1⟩; have HW := Lib.hid hw1; have hp1 := hp.out w1 hw1; have K1 := Lib.hid (K.out w1 hw1); clear hw1)
  refine region_quiet_tail 11 (C := fun w' => ∃ m, w' = w1.drewN m) (by kernel_rfl) (by kernel_rfl) ⟨1, rfl⟩ ?_
  simp only [List.take_succ_cons, List.take_zero, List.drop_succ_cons, List.drop_zero]
  iterate 11 go_big_quiet_step ((go_at_call 155; exact K1.out _))
  refine wpQuiet_nil ?_
  rintro _ ⟨m, rfl⟩
  go_wp2_with fail
  go_ret
  exact ⟨rfl, drew2 HW.out ⟨m, rfl⟩⟩

set_option maxRecDepth 100000 in
theorem pKIL {w : World} {t g o L cc n : Nat} {T : List Nat} (h : Tbl w t g o L cc T) (M : Msgy T n) {c : Nat} {ys : List Nat} (V : Vec T 0 c ys) (hc : c ≤ 100000) :
    Calls Tryz.prog 184 #[.pointer (some ⟨t, 0, none⟩)] w fun e w' => e = .returned (.int .i64 (c : Int)) ∧ ∃ m, w' = w.drewN m := by
  have KO := Lib.hid (tOff h M 0 4 (by decide))
  have K := Lib.hid fun m => tVL (h.drewN m) V hc (V.d0 (by have := h.len; have := h.top; omega))
  have ht := h.len
  have ht2 := h.top
  have v3 := V.ne
  obtain ⟨F, hF⟩ : ∃ F, F = fld T 0 := ⟨_, rfl⟩
  have bF : F ≤ 65535 := by rw [hF]; exact h.fld_lt 0
  rw [← hF] at KO v3 K
  have F1 : ¬ (F : Int) = 0 := by omega
  have F2 : ((F : Int) == 0) = false := by simpa using v3
  clear h M V hF v3
  go_enter Tryz.func184, Tryz.ntmps184
  go_wp2_with (first
    | (go_at_call 154; (with_reducible refine KO.out.mono ?_); rintro e w1 ⟨rfl, m1, rfl⟩)
    | (go_at_call 156; (with_reducible refine (K.out m1).mono ?_); rintro e w1 ⟨rfl, rfl⟩))
  go_ret
  exact ⟨rfl, m1, rfl⟩

set_option maxRecDepth 100000 in
theorem pKOL {w : World} {t g o L cc n : Nat} {T : List Nat} (h : Tbl w t g o L cc T) (M : Msgy T n) {c : Nat} {ys : List Nat} (V : Vec T 1 c ys) (hc : c ≤ 100000) :
    Calls Tryz.prog 167 #[.pointer (some ⟨t, 0, none⟩)] w fun e w' => e = .returned (.int .i64 (c : Int)) ∧ ∃ m, w' = w.drewN m := by
  have KO := Lib.hid (tOff h M 1 6 (by decide))
  have K := Lib.hid fun m => tVL (h.drewN m) V hc (V.d0 (by have := h.len; have := h.top; omega))
  have ht := h.len
  have ht2 := h.top
  have v3 := V.ne
  obtain ⟨F, hF⟩ : ∃ F, F = fld T 1 := ⟨_, rfl⟩
  have bF : F ≤ 65535 := by rw [hF]; exact h.fld_lt 1
  rw [← hF] at KO v3 K
  have F1 : ¬ (F : Int) = 0 := by omega
  have F2 : ((F : Int) == 0) = false := by simpa using v3
  clear h M V hF v3
  go_enter Tryz.func167, Tryz.ntmps167
  go_wp2_with (first
    | (go_at_call 154; (with_reducible refine KO.out.mono ?_); rintro e w1 ⟨rfl, m1, rfl⟩)
    | (go_at_call 156; (with_reducible refine (K.out m1).mono ?_); rintro e w1 ⟨rfl, rfl⟩))
  go_ret
  exact ⟨rfl, m1, rfl⟩

set_option maxRecDepth 100000 in
theorem pVOL {w : World} {t g o L cc n : Nat} {T : List Nat} (h : Tbl w t g o L cc T) (M : Msgy T n) {c : Nat} {ys : List Nat} (V : Vec T 4 c ys) (hc : c ≤ 100000) :
    Calls Tryz.prog 169 #[.pointer (some ⟨t, 0, none⟩)] w fun e w' => e = .returned (.int .i64 (c : Int)) ∧ ∃ m, w' = w.drewN m := by
  have KO := Lib.hid (tOff h M 4 12 (by decide))
  have K := Lib.hid fun m => tVL (h.drewN m) V hc (V.d0 (by have := h.len; have := h.top; omega))
  have ht := h.len
  have ht2 := h.top
  have v3 := V.ne
  obtain ⟨F, hF⟩ : ∃ F, F = fld T 4 := ⟨_, rfl⟩
  have bF : F ≤ 65535 := by rw [hF]; exact h.fld_lt 4
  rw [← hF] at KO v3 K
  have F1 : ¬ (F : Int) = 0 := by omega
  have F2 : ((F : Int) == 0) = false := by simpa using v3
  clear h M V hF v3
  go_enter Tryz.func169, Tryz.ntmps169
  go_wp2_with (first
    | (go_at_call 154; (with_reducible refine KO.out.mono ?_); rintro e w1 ⟨rfl, m1, rfl⟩)
    | (go_at_call 156; (with_reducible refine (K.out m1).mono ?_); rintro e w1 ⟨rfl, rfl⟩))
  go_ret
  exact ⟨rfl, m1, rfl⟩

set_option maxRecDepth 100000 in
theorem pVAL0 {w : World} {t g o L cc n : Nat} {T : List Nat} (h : Tbl w t g o L cc T) (M : Msgy T n) (h0 : fld T 6 = 0) :
    Calls Tryz.prog 120 #[.pointer (some ⟨t, 0, none⟩)] w fun e w' => e = .returned (.int .i64 0) ∧ ∃ m, w' = w.drewN m := by
  have KO := Lib.hid (tOff h M 6 16 (by decide))
  rw [h0] at KO
  clear h M h0
  go_enter Tryz.func120, Tryz.ntmps120
  go_wp2_with (go_at_call 154; (with_reducible refine KO.out.mono ?_); rintro e w1 ⟨rfl, m1, rfl⟩)
  go_ret
  exact ⟨rfl, m1, rfl⟩

set_option maxRecDepth 100000 in
theorem pTC {w : World} {t g o L cc n : Nat} {T : List Nat} (h : Tbl w t g o L cc T) (M : Msgy T n) {v : Nat} (V : Num T 8 9 v) :
    Calls Tryz.prog 146 #[.pointer (some ⟨t, 0, none⟩)] w fun e w' => e = .returned (.int .u64 (v : Int)) ∧ ∃ m, w' = w.drewN m := by
  have hn := V.num
  unfold num at hn
  by_cases h0 : fld T 9 = 0
  · rw [if_pos h0] at hn
    subst hn
    have KO := Lib.hid (tOff h M 9 22 (by decide))
    rw [h0] at KO
    clear h M h0 V
    go_enter Tryz.func146, Tryz.ntmps146
    go_wp2_with (go_at_call 154; (with_reducible refine KO.out.mono ?_); rintro e w1 ⟨rfl, m1, rfl⟩)
    go_ret
    exact ⟨rfl, m1, rfl⟩
  rw [if_neg h0] at hn
  have v2 := V.at_ h0
  have KO := Lib.hid (tOff h M 9 22 (by decide))
  have h1 := fun w1 (e : ∃ m, w1 = w.drewN m) => tbl_of h e
  have hp := Lib.hid fun w1 (e : ∃ m, w1 = w.drewN m) k => ((h1 w1 e).drewN k).c1
  have ht := h.len
  have ht2 := h.top
  have hpo := h.pos4
  obtain ⟨A, hA⟩ : ∃ A, A = fld T 9 + pos T := ⟨_, rfl⟩
  rw [← hA] at hn v2
  have K := Lib.hid fun w1 (e : ∃ m, w1 = w.drewN m) k => quiet_left (tU64 ((h1 w1 e).drewN k) A (by omega))
  rw [hn] at K
  obtain ⟨F, hF⟩ : ∃ F, F = fld T 9 := ⟨_, rfl⟩
  obtain ⟨P, hP⟩ : ∃ P, P = pos T := ⟨_, rfl⟩
  have bF : F ≤ 65535 := by rw [hF]; exact h.fld_lt 9
  rw [← hF] at KO h0 hA
  rw [← hP] at hp hA
  have e1 : (F : Int) + (P : Int) = (A : Int) := by omega
  have bA : A ≤ 100000 := by omega
  have F1 : ¬ (F : Int) = 0 := by omega
  have F2 : ((F : Int) == 0) = false := by simpa using h0
  clear h M V hn hA hF hP v2 h0 h1
  go_enter Tryz.func146, Tryz.ntmps146
  go_wp2_with (go_at_call 154; (with_reducible refine KO.out.mono ?_); rintro e w1 ⟨rfl, hw1⟩; have HW := Lib.hid hw1; have hp1 := hp.out w1 hw1; have K1 := Lib.hid (K.out w1 hw1); clear hw1)
  refine region_quiet_tail 11 (C := fun w' => ∃ m, w' = w1.drewN m) (by kernel_rfl) (by kernel_rfl) ⟨1, rfl⟩ ?_
  simp only [List.take_succ_cons, List.take_zero, List.drop_succ_cons, List.drop_zero]
  iterate 11 go_big_quiet_step ((go_at_call 173; exact K1.out _))
  refine wpQuiet_nil ?_
  rintro _ ⟨m, rfl⟩
  go_wp2_with fail
  go_ret
  exact ⟨rfl, drew2 HW.out ⟨m, rfl⟩⟩

set_option maxRecDepth 100000 in
theorem pTL {w : World} {t g o L cc n : Nat} {T : List Nat} (h : Tbl w t g o L cc T) (M : Msgy T n) {v : Nat} (V : Num T 1 10 v) :
    Calls Tryz.prog 144 #[.pointer (some ⟨t, 0, none⟩)] w fun e w' => e = .returned (.int .u8 (v : Int)) ∧ ∃ m, w' = w.drewN m := by
  have hn := V.num
  unfold num at hn
  by_cases h0 : fld T 10 = 0
  · rw [if_pos h0] at hn
    subst hn
    have KO := Lib.hid (tOff h M 10 24 (by decide))
    rw [h0] at KO
    clear h M h0 V
    go_enter Tryz.func144, Tryz.ntmps144
    go_wp2_with (go_at_call 154; (with_reducible refine KO.out.mono ?_); rintro e w1 ⟨rfl, m1, rfl⟩)
    go_ret
    exact ⟨rfl, m1, rfl⟩
  rw [if_neg h0] at hn
  have v2 := V.at_ h0
  have KO := Lib.hid (tOff h M 10 24 (by decide))
  have h1 := fun w1 (e : ∃ m, w1 = w.drewN m) => tbl_of h e
  have hp := Lib.hid fun w1 (e : ∃ m, w1 = w.drewN m) k => ((h1 w1 e).drewN k).c1
  have ht := h.len
  have ht2 := h.top
  have hpo := h.pos4
  obtain ⟨A, hA⟩ : ∃ A, A = fld T 10 + pos T := ⟨_, rfl⟩
  rw [← hA] at hn v2
  have K := Lib.hid fun w1 (e : ∃ m, w1 = w.drewN m) k => quiet_left (tB ((h1 w1 e).drewN k) A (by omega))
  rw [hn] at K
  obtain ⟨F, hF⟩ : ∃ F, F = fld T 10 := ⟨_, rfl⟩
  obtain ⟨P, hP⟩ : ∃ P, P = pos T := ⟨_, rfl⟩
  have bF : F ≤ 65535 := by rw [hF]; exact h.fld_lt 10
  rw [← hF] at KO h0 hA
  rw [← hP] at hp hA
  have e1 : (F : Int) + (P : Int) = (A : Int) := by omega
  have bA : A ≤ 100000 := by omega
  have F1 : ¬ (F : Int) = 0 := by omega
  have F2 : ((F : Int) == 0) = false := by simpa using h0
  clear h M V hn hA hF hP v2 h0 h1
  go_enter Tryz.func144, Tryz.ntmps144
  go_wp2_with (go_at_call 154; (with_reducible refine KO.out.mono ?_); rintro e w1 ⟨rfl, hw1⟩; have HW := Lib.hid hw1; have hp1 := hp.out w1 hw1; have K1 := Lib.hid (K.out w1 hw1); clear hw1)
  refine region_quiet_tail 11 (C := fun w' => ∃ m, w' = w1.drewN m) (by kernel_rfl) (by kernel_rfl) ⟨1, rfl⟩ ?_
  simp only [List.take_succ_cons, List.take_zero, List.drop_succ_cons, List.drop_zero]
  iterate 11 go_big_quiet_step ((go_at_call 172; exact K1.out _))
  refine wpQuiet_nil ?_
  rintro _ ⟨m, rfl⟩
  go_wp2_with fail
  go_ret
  exact ⟨rfl, drew2 HW.out ⟨m, rfl⟩⟩

set_option maxRecDepth 100000 in
theorem aKI {w : World} {t g o L cc n : Nat} {T : List Nat} (h : Tbl w t g o L cc T) (M : Msgy T n) {c : Nat} {ys : List Nat} (V : Vec T 0 c ys) (hy : ys.length = c) (hc : c ≤ 100000) :
    Calls Tryz.prog 140 #[.pointer (some ⟨t, 0, none⟩)] w fun e w' => e = .returned (.slice (cutA (some ⟨g, o, none⟩) cc (ind T 0 + 4)) c (cc - (ind T 0 + 4))) ∧ ∃ m, w' = w.drewN m := by
  have KO := Lib.hid (tOff h M 0 4 (by decide))
  have h1 := fun w1 (e : ∃ m, w1 = w.drewN m) => tbl_of h e
  have hp := Lib.hid fun w1 (e : ∃ m, w1 = w.drewN m) k => ((h1 w1 e).drewN k).c1
  have ht := h.len
  have ht2 := h.top
  have hpo := h.pos4
  obtain ⟨A, hA⟩ : ∃ A, A = fld T 0 + pos T := ⟨_, rfl⟩
  have K := Lib.hid fun w1 (e : ∃ m, w1 = w.drewN m) k => quiet_left (tBV ((h1 w1 e).drewN k) V hy hc (V.d0 (by omega)) A hA)
  have v2 := V.at_
  have v3 := V.ne
  obtain ⟨F, hF⟩ : ∃ F, F = fld T 0 := ⟨_, rfl⟩
  obtain ⟨P, hP⟩ : ∃ P, P = pos T := ⟨_, rfl⟩
  obtain ⟨J, hJ⟩ : ∃ J, J = ind T 0 + 4 := ⟨_, rfl⟩
  rw [← hF] at KO v3 v2 hA
  rw [← hP] at hp v2 hA
  rw [← hJ] at K ⊢
  have e1 : (F : Int) + (P : Int) = (A : Int) := by omega
  have bA : A ≤ 100000 := by omega
  have F0 : ¬ F = 0 := v3
  have F1 : ¬ (F : Int) = 0 := by omega
  have F2 : ((F : Int) == 0) = false := by simpa using F0
  have bF : F ≤ 65535 := by rw [hF]; exact h.fld_lt 0
  clear h M V hy hA hF hP hJ v2 v3 h1
  go_enter Tryz.func140, Tryz.ntmps140
  go_wp2_with (go_at_call 154; (with_reducible refine KO.out.mono ?_); rintro e w1 ⟨rfl, hw1⟩; have HW := Lib.hid hw1; have hp1 := hp.out w1 hw1; have K1 := Lib.hid (K.out w1 hw1); clear hw1)
  refine region_quiet_tail 11 (C := fun w' => ∃ m, w' = w1.drewN m) (by kernel_rfl) (by kernel_rfl) ⟨1, rfl⟩ ?_
  simp only [List.take_succ_cons, List.take_zero, List.drop_succ_cons, List.drop_zero]
  iterate 11 go_big_quiet_step ((go_at_call 155; exact K1.out _))
  refine wpQuiet_nil ?_
  rintro _ ⟨m, rfl⟩
  go_wp2_with fail
  go_ret
  exact ⟨rfl, drew2 HW.out ⟨m, rfl⟩⟩

set_option maxRecDepth 100000 in
theorem aAA {w : World} {t g o L cc n : Nat} {T : List Nat} (h : Tbl w t g o L cc T) (M : Msgy T n) {c : Nat} {ys : List Nat} (V : Vec T 2 c ys) (hy : ys.length = c) (hc : c ≤ 100000) :
    Calls Tryz.prog 125 #[.pointer (some ⟨t, 0, none⟩)] w fun e w' => e = .returned (.slice (cutA (some ⟨g, o, none⟩) cc (ind T 2 + 4)) c (cc - (ind T 2 + 4))) ∧ ∃ m, w' = w.drewN m := by
  have KO := Lib.hid (tOff h M 2 8 (by decide))
  have h1 := fun w1 (e : ∃ m, w1 = w.drewN m) => tbl_of h e
  have hp := Lib.hid fun w1 (e : ∃ m, w1 = w.drewN m) k => ((h1 w1 e).drewN k).c1
  have ht := h.len
  have ht2 := h.top
  have hpo := h.pos4
  obtain ⟨A, hA⟩ : ∃ A, A = fld T 2 + pos T := ⟨_, rfl⟩
  have K := Lib.hid fun w1 (e : ∃ m, w1 = w.drewN m) k => quiet_left (tBV ((h1 w1 e).drewN k) V hy hc (V.d0 (by omega)) A hA)
  have v2 := V.at_
  have v3 := V.ne
  obtain ⟨F, hF⟩ : ∃ F, F = fld T 2 := ⟨_, rfl⟩
  obtain ⟨P, hP⟩ : ∃ P, P = pos T := ⟨_, rfl⟩
  obtain ⟨J, hJ⟩ : ∃ J, J = ind T 2 + 4 := ⟨_, rfl⟩
  rw [← hF] at KO v3 v2 hA
  rw [← hP] at hp v2 hA
  rw [← hJ] at K ⊢
  have e1 : (F : Int) + (P : Int) = (A : Int) := by omega
  have bA : A ≤ 100000 := by omega
  have F0 : ¬ F = 0 := v3
  have F1 : ¬ (F : Int) = 0 := by omega
  have F2 : ((F : Int) == 0) = false := by simpa using F0
  have bF : F ≤ 65535 := by rw [hF]; exact h.fld_lt 2
  clear h M V hy hA hF hP hJ v2 v3 h1
  go_enter Tryz.func125, Tryz.ntmps125
  go_wp2_with (go_at_call 154; (with_reducible refine KO.out.mono ?_); rintro e w1 ⟨rfl, hw1⟩; have HW := Lib.hid hw1; have hp1 := hp.out w1 hw1; have K1 := Lib.hid (K.out w1 hw1); clear hw1)
  refine region_quiet_tail 11 (C := fun w' => ∃ m, w' = w1.drewN m) (by kernel_rfl) (by kernel_rfl) ⟨1, rfl⟩ ?_
  simp only [List.take_succ_cons, List.take_zero, List.drop_succ_cons, List.drop_zero]
  iterate 11 go_big_quiet_step ((go_at_call 155; exact K1.out _))
  refine wpQuiet_nil ?_
  rintro _ ⟨m, rfl⟩
  go_wp2_with fail
  go_ret
  exact ⟨rfl, drew2 HW.out ⟨m, rfl⟩⟩

set_option maxRecDepth 100000 in
theorem aSC {w : World} {t g o L cc n : Nat} {T : List Nat} (h : Tbl w t g o L cc T) (M : Msgy T n) {c : Nat} {ys : List Nat} (V : Vec T 3 c ys) (hy : ys.length = c) (hc : c ≤ 100000) :
    Calls Tryz.prog 177 #[.pointer (some ⟨t, 0, none⟩)] w fun e w' => e = .returned (.slice (cutA (some ⟨g, o, none⟩) cc (ind T 3 + 4)) c (cc - (ind T 3 + 4))) ∧ ∃ m, w' = w.drewN m := by
  have KO := Lib.hid (tOff h M 3 10 (by decide))
  have h1 := fun w1 (e : ∃ m, w1 = w.drewN m) => tbl_of h e
  have hp := Lib.hid fun w1 (e : ∃ m, w1 = w.drewN m) k => ((h1 w1 e).drewN k).c1
  have ht := h.len
  have ht2 := h.top
  have hpo := h.pos4
  obtain ⟨A, hA⟩ : ∃ A, A = fld T 3 + pos T := ⟨_, rfl⟩
  have K := Lib.hid fun w1 (e : ∃ m, w1 = w.drewN m) k => quiet_left (tBV ((h1 w1 e).drewN k) V hy hc (V.d0 (by omega)) A hA)
  have v2 := V.at_
  have v3 := V.ne
  obtain ⟨F, hF⟩ : ∃ F, F = fld T 3 := ⟨_, rfl⟩
  obtain ⟨P, hP⟩ : ∃ P, P = pos T := ⟨_, rfl⟩
  obtain ⟨J, hJ⟩ : ∃ J, J = ind T 3 + 4 := ⟨_, rfl⟩
  rw [← hF] at KO v3 v2 hA
  rw [← hP] at hp v2 hA
  rw [← hJ] at K ⊢
  have e1 : (F : Int) + (P : Int) = (A : Int) := by omega
  have bA : A ≤ 100000 := by omega
  have F0 : ¬ F = 0 := v3
  have F1 : ¬ (F : Int) = 0 := by omega
  have F2 : ((F : Int) == 0) = false := by simpa using F0
  have bF : F ≤ 65535 := by rw [hF]; exact h.fld_lt 3
  clear h M V hy hA hF hP hJ v2 v3 h1
  go_enter Tryz.func177, Tryz.ntmps177
  go_wp2_with (go_at_call 154; (with_reducible refine KO.out.mono ?_); rintro e w1 ⟨rfl, hw1⟩; have HW := Lib.hid hw1; have hp1 := hp.out w1 hw1; have K1 := Lib.hid (K.out w1 hw1); clear hw1)
  refine region_quiet_tail 11 (C := fun w' => ∃ m, w' = w1.drewN m) (by kernel_rfl) (by kernel_rfl) ⟨1, rfl⟩ ?_
  simp only [List.take_succ_cons, List.take_zero, List.drop_succ_cons, List.drop_zero]
  iterate 11 go_big_quiet_step ((go_at_call 155; exact K1.out _))
  refine wpQuiet_nil ?_
  rintro _ ⟨m, rfl⟩
  go_wp2_with fail
  go_ret
  exact ⟨rfl, drew2 HW.out ⟨m, rfl⟩⟩

set_option maxRecDepth 100000 in
theorem aKIL {w : World} {t g o L cc n : Nat} {T : List Nat} (h : Tbl w t g o L cc T) (M : Msgy T n) {c : Nat} {ys : List Nat} (V : Vec T 0 c ys) (hc : c ≤ 100000) :
    Calls Tryz.prog 142 #[.pointer (some ⟨t, 0, none⟩)] w fun e w' => e = .returned (.int .i64 (c : Int)) ∧ ∃ m, w' = w.drewN m := by
  have KO := Lib.hid (tOff h M 0 4 (by decide))
  have K := Lib.hid fun m => tVL (h.drewN m) V hc (V.d0 (by have := h.len; have := h.top; omega))
  have ht := h.len
  have ht2 := h.top
  have v3 := V.ne
  obtain ⟨F, hF⟩ : ∃ F, F = fld T 0 := ⟨_, rfl⟩
  have bF : F ≤ 65535 := by rw [hF]; exact h.fld_lt 0
  rw [← hF] at KO v3 K
  have F1 : ¬ (F : Int) = 0 := by omega
  have F2 : ((F : Int) == 0) = false := by simpa using v3
  clear h M V hF v3
  go_enter Tryz.func142, Tryz.ntmps142
  go_wp2_with (first
    | (go_at_call 154; (with_reducible refine KO.out.mono ?_); rintro e w1 ⟨rfl, m1, rfl⟩)
    | (go_at_call 156; (with_reducible refine (K.out m1).mono ?_); rintro e w1 ⟨rfl, rfl⟩))
  go_ret
  exact ⟨rfl, m1, rfl⟩

set_option maxRecDepth 100000 in
theorem aKOL {w : World} {t g o L cc n : Nat} {T : List Nat} (h : Tbl w t g o L cc T) (M : Msgy T n) {c : Nat} {ys : List Nat} (V : Vec T 1 c ys) (hc : c ≤ 100000) :
    Calls Tryz.prog 143 #[.pointer (some ⟨t, 0, none⟩)] w fun e w' => e = .returned (.int .i64 (c : Int)) ∧ ∃ m, w' = w.drewN m := by
  have KO := Lib.hid (tOff h M 1 6 (by decide))
  have K := Lib.hid fun m => tVL (h.drewN m) V hc (V.d0 (by have := h.len; have := h.top; omega))
  have ht := h.len
  have ht2 := h.top
  have v3 := V.ne
  obtain ⟨F, hF⟩ : ∃ F, F = fld T 1 := ⟨_, rfl⟩
  have bF : F ≤ 65535 := by rw [hF]; exact h.fld_lt 1
  rw [← hF] at KO v3 K
  have F1 : ¬ (F : Int) = 0 := by omega
  have F2 : ((F : Int) == 0) = false := by simpa using v3
  clear h M V hF v3
  go_enter Tryz.func143, Tryz.ntmps143
  go_wp2_with (first
    | (go_at_call 154; (with_reducible refine KO.out.mono ?_); rintro e w1 ⟨rfl, m1, rfl⟩)
    | (go_at_call 156; (with_reducible refine (K.out m1).mono ?_); rintro e w1 ⟨rfl, rfl⟩))
  go_ret
  exact ⟨rfl, m1, rfl⟩

set_option maxRecDepth 100000 in
theorem aTC {w : World} {t g o L cc n : Nat} {T : List Nat} (h : Tbl w t g o L cc T) (M : Msgy T n) {v : Nat} (V : Num T 8 4 v) :
    Calls Tryz.prog 147 #[.pointer (some ⟨t, 0, none⟩)] w fun e w' => e = .returned (.int .u64 (v : Int)) ∧ ∃ m, w' = w.drewN m := by
  have hn := V.num
  unfold num at hn
  by_cases h0 : fld T 4 = 0
  · rw [if_pos h0] at hn
    subst hn
    have KO := Lib.hid (tOff h M 4 12 (by decide))
    rw [h0] at KO
    clear h M h0 V
    go_enter Tryz.func147, Tryz.ntmps147
    go_wp2_with (go_at_call 154; (with_reducible refine KO.out.mono ?_); rintro e w1 ⟨rfl, m1, rfl⟩)
    go_ret
    exact ⟨rfl, m1, rfl⟩
  rw [if_neg h0] at hn
  have v2 := V.at_ h0
  have KO := Lib.hid (tOff h M 4 12 (by decide))
  have h1 := fun w1 (e : ∃ m, w1 = w.drewN m) => tbl_of h e
  have hp := Lib.hid fun w1 (e : ∃ m, w1 = w.drewN m) k => ((h1 w1 e).drewN k).c1
  have ht := h.len
  have ht2 := h.top
  have hpo := h.pos4
  obtain ⟨A, hA⟩ : ∃ A, A = fld T 4 + pos T := ⟨_, rfl⟩
  rw [← hA] at hn v2
  have K := Lib.hid fun w1 (e : ∃ m, w1 = w.drewN m) k => quiet_left (tU64 ((h1 w1 e).drewN k) A (by omega))
  rw [hn] at K
  obtain ⟨F, hF⟩ : ∃ F, F = fld T 4 := ⟨_, rfl⟩
  obtain ⟨P, hP⟩ : ∃ P, P = pos T := ⟨_, rfl⟩
  have bF : F ≤ 65535 := by rw [hF]; exact h.fld_lt 4
  rw [← hF] at KO h0 hA
  rw [← hP] at hp hA
  have e1 : (F : Int) + (P : Int) = (A : Int) := by omega
  have bA : A ≤ 100000 := by omega
  have F1 : ¬ (F : Int) = 0 := by omega
  have F2 : ((F : Int) == 0) = false := by simpa using h0
  clear h M V hn hA hF hP v2 h0 h1
  go_enter Tryz.func147, Tryz.ntmps147
  go_wp2_with (go_at_call 154; (with_reducible refine KO.out.mono ?_); rintro e w1 ⟨rfl, hw1⟩; have HW := Lib.hid hw1; have hp1 := hp.out w1 hw1; have K1 := Lib.hid (K.out w1 hw1); clear hw1)
  refine region_quiet_tail 11 (C := fun w' => ∃ m, w' = w1.drewN m) (by kernel_rfl) (by kernel_rfl) ⟨1, rfl⟩ ?_
  simp only [List.take_succ_cons, List.take_zero, List.drop_succ_cons, List.drop_zero]
  iterate 11 go_big_quiet_step ((go_at_call 173; exact K1.out _))
  refine wpQuiet_nil ?_
  rintro _ ⟨m, rfl⟩
  go_wp2_with fail
  go_ret
  exact ⟨rfl, drew2 HW.out ⟨m, rfl⟩⟩

set_option maxRecDepth 100000 in
theorem aTL {w : World} {t g o L cc n : Nat} {T : List Nat} (h : Tbl w t g o L cc T) (M : Msgy T n) {v : Nat} (V : Num T 1 5 v) :
    Calls Tryz.prog 145 #[.pointer (some ⟨t, 0, none⟩)] w fun e w' => e = .returned (.int .u8 (v : Int)) ∧ ∃ m, w' = w.drewN m := by
  have hn := V.num
  unfold num at hn
  by_cases h0 : fld T 5 = 0
  · rw [if_pos h0] at hn
    subst hn
    have KO := Lib.hid (tOff h M 5 14 (by decide))
    rw [h0] at KO
    clear h M h0 V
    go_enter Tryz.func145, Tryz.ntmps145
    go_wp2_with (go_at_call 154; (with_reducible refine KO.out.mono ?_); rintro e w1 ⟨rfl, m1, rfl⟩)
    go_ret
    exact ⟨rfl, m1, rfl⟩
  rw [if_neg h0] at hn
  have v2 := V.at_ h0
  have KO := Lib.hid (tOff h M 5 14 (by decide))
  have h1 := fun w1 (e : ∃ m, w1 = w.drewN m) => tbl_of h e
  have hp := Lib.hid fun w1 (e : ∃ m, w1 = w.drewN m) k => ((h1 w1 e).drewN k).c1
  have ht := h.len
  have ht2 := h.top
  have hpo := h.pos4
  obtain ⟨A, hA⟩ : ∃ A, A = fld T 5 + pos T := ⟨_, rfl⟩
  rw [← hA] at hn v2
  have K := Lib.hid fun w1 (e : ∃ m, w1 = w.drewN m) k => quiet_left (tB ((h1 w1 e).drewN k) A (by omega))
  rw [hn] at K
  obtain ⟨F, hF⟩ : ∃ F, F = fld T 5 := ⟨_, rfl⟩
  obtain ⟨P, hP⟩ : ∃ P, P = pos T := ⟨_, rfl⟩
  have bF : F ≤ 65535 := by rw [hF]; exact h.fld_lt 5
  rw [← hF] at KO h0 hA
  rw [← hP] at hp hA
  have e1 : (F : Int) + (P : Int) = (A : Int) := by omega
  have bA : A ≤ 100000 := by omega
  have F1 : ¬ (F : Int) = 0 := by omega
  have F2 : ((F : Int) == 0) = false := by simpa using h0
  clear h M V hn hA hF hP v2 h0 h1
  go_enter Tryz.func145, Tryz.ntmps145
  go_wp2_with (go_at_call 154; (with_reducible refine KO.out.mono ?_); rintro e w1 ⟨rfl, hw1⟩; have HW := Lib.hid hw1; have hp1 := hp.out w1 hw1; have K1 := Lib.hid (K.out w1 hw1); clear hw1)
  refine region_quiet_tail 11 (C := fun w' => ∃ m, w' = w1.drewN m) (by kernel_rfl) (by kernel_rfl) ⟨1, rfl⟩ ?_
  simp only [List.take_succ_cons, List.take_zero, List.drop_succ_cons, List.drop_zero]
  iterate 11 go_big_quiet_step ((go_at_call 172; exact K1.out _))
  refine wpQuiet_nil ?_
  rintro _ ⟨m, rfl⟩
  go_wp2_with fail
  go_ret
  exact ⟨rfl, drew2 HW.out ⟨m, rfl⟩⟩
end Go.Proofs.YtegohkgmamnkdaaGreat.Msg
