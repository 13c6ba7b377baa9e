/- A message's root table, made; its offsets' bytes, walked. Condition: the bytes are a message. -/
import Derived.Test.YtegohkgmamnkdaaGreatRd5
set_option linter.unusedVariables false
namespace Go.Proofs.YtegohkgmamnkdaaGreat.Msg
open Go.ChangeShapes Go.WideShapes Go.ChangeAt Go.RowKit
open Go.Proofs.YtegohkgmamnkdaaGreat.Dig Go.Proofs.YtegohkgmamnkdaaGreat.Mem Go.Proofs.YtegohkgmamnkdaaGreat.Rb

theorem drew_below {w w1 : World} (h : ∃ m, w1 = w.drewN m) : Below w.heap.size w w1 := by
  obtain ⟨m, rfl⟩ := h
  exact ⟨rfl, rfl, rfl, Nat.le_refl _, fun _ _ => rfl⟩
theorem tbl_new {w : World} {t g o L cc : Nat} {T : List Nat} (h : Tbl w t g o L cc T) (P : Nat) (hP : P = pos T) : Tbl (w.alloc (.cells #[.slice (some ⟨g, o, none⟩) L cc, .int .u32 (P : Int)] 148)) w.heap.size g o L cc T := by
  subst hP
  exact ⟨⟨_, heap_alloc_new _ _⟩, h.rb.below ((Below.refl _ _).alloc (Nat.le_refl _) _) (Nat.le_refl _), h.top, h.pos4⟩

set_option maxRecDepth 100000 in
theorem initP (w : World) (g o L cc : Nat) (P : Nat) :
    Calls Tryz.prog 153 #[.pointer (some ⟨w.heap.size, 0, none⟩), .slice (some ⟨g, o, none⟩) L cc, .int .u32 (P : Int)] (w.alloc (.cells #[.slice none 0 0, .int .u32 0] 150)) fun e w' => e = .returned (.tuple #[]) ∧ w' = w.alloc (.cells #[.slice (some ⟨g, o, none⟩) L cc, .int .u32 (P : Int)] 150) := by
  go_enter Tryz.func153, Tryz.ntmps153
  go_wp2
  go_end0
  exact ⟨rfl, rfl⟩

set_option maxRecDepth 100000 in
theorem rootP {w : World} {g o L cc : Nat} {T : List Nat} (h : RB w (some ⟨g, o, none⟩) L cc T) (ht : L ≤ 100000) (hp : pos T + 4 ≤ L) :
    Calls Tryz.prog 117 #[.slice (some ⟨g, o, none⟩) L cc, .int .u32 0] w fun e w' => ∃ t, e = .returned (.pointer (some ⟨t, 0, none⟩)) ∧ w.heap.size ≤ t ∧ Tbl w' t g o L cc T ∧ Below w.heap.size w w' := by
  have h1 := h.le
  have h2 := h.top
  unfold maxLen at h2
  have K := Lib.hid (getUO w g o L cc T h (by omega) (by unfold pos at hp; omega))
  have C0 := cutLoO (k := .u32) g o L cc 0 (by omega) h1 (by omega)
  rw [Nat.add_zero, Nat.sub_zero, Nat.sub_zero, show ((0 : Nat) : Int) = 0 from rfl] at C0
  have HR := Lib.hid h
  obtain ⟨P, hP⟩ : ∃ P, P = pos T := ⟨_, rfl⟩
  have hk : unle 4 T = P := by rw [hP]; rfl
  rw [hk] at K
  have bP : P ≤ 100000 := by omega
  have HP := Lib.hid hP
  clear h hk hP
  go_enter Tryz.func117, Tryz.ntmps117
  go_wp2_with (first
    | (go_at_call 152; (with_reducible refine K.out.mono ?_); rintro e w1 ⟨rfl, rfl⟩)
    | (go_at_call 153; (with_reducible refine (initP w g o L cc P).mono ?_); rintro e w1 ⟨rfl, rfl⟩))
  go_ret
  have hb : Below w.heap.size w (w.alloc (.cells #[.slice (some ⟨g, o, none⟩) L cc, .int .u32 (P : Int)] 150)) := (Below.refl _ _).alloc (Nat.le_refl _) _
  refine ⟨w.heap.size, rfl, Nat.le_refl _, ⟨⟨150, ?_⟩, HR.out.below hb (Nat.le_refl _), ht, hp⟩, hb⟩
  rw [heap_alloc_new, HP.out]

set_option maxRecDepth 100000 in
theorem tableP {w : World} {t g o L cc : Nat} {T : List Nat} (h : Tbl w t g o L cc T) :
    Calls Tryz.prog 168 #[.pointer (some ⟨t, 0, none⟩)] w fun e w' => e = .returned (.agg #[.slice (some ⟨g, o, none⟩) L cc, .int .u32 ((pos T : Nat) : Int)]) ∧ Below w.heap.size w w' := by
  have c0 := h.c0
  have c1 := h.c1
  obtain ⟨ty, hr⟩ := h.row
  have hlt := lt_of_obj hr
  have hne : t ≠ w.heap.size := by omega
  obtain ⟨P, hP⟩ : ∃ P, P = pos T := ⟨_, rfl⟩
  rw [← hP] at c1 ⊢
  clear h hr hP
  go_enter Tryz.func168, Tryz.ntmps168
  go_wp2
  refine bodyPost_ret (results_cell_row rfl _ _ w.heap.size 148 #[.slice (some ⟨g, o, none⟩) L cc, .int .u32 (P : Int)] (0, 0) _ rfl (heap_alloc_new _ _) Tryz.underlying148 rfl (by kernel_rfl)) rfl ?_
  exact ⟨rfl, (Below.refl _ _).alloc (Nat.le_refl _) _⟩

set_option maxRecDepth 100000 in
theorem initA (w : World) (g o L cc : Nat) (P : Nat) :
    Calls Tryz.prog 159 #[.pointer (some ⟨w.heap.size, 0, none⟩), .slice (some ⟨g, o, none⟩) L cc, .int .u32 (P : Int)] (w.alloc (.cells #[.slice none 0 0, .int .u32 0] 156)) fun e w' => e = .returned (.tuple #[]) ∧ w' = w.alloc (.cells #[.slice (some ⟨g, o, none⟩) L cc, .int .u32 (P : Int)] 156) := by
  go_enter Tryz.func159, Tryz.ntmps159
  go_wp2
  go_end0
  exact ⟨rfl, rfl⟩

set_option maxRecDepth 100000 in
theorem rootA {w : World} {g o L cc : Nat} {T : List Nat} (h : RB w (some ⟨g, o, none⟩) L cc T) (ht : L ≤ 100000) (hp : pos T + 4 ≤ L) :
    Calls Tryz.prog 124 #[.slice (some ⟨g, o, none⟩) L cc, .int .u32 0] w fun e w' => ∃ t, e = .returned (.pointer (some ⟨t, 0, none⟩)) ∧ w.heap.size ≤ t ∧ Tbl w' t g o L cc T ∧ Below w.heap.size w w' := by
  have h1 := h.le
  have h2 := h.top
  unfold maxLen at h2
  have K := Lib.hid (getUO w g o L cc T h (by omega) (by unfold pos at hp; omega))
  have C0 := cutLoO (k := .u32) g o L cc 0 (by omega) h1 (by omega)
  rw [Nat.add_zero, Nat.sub_zero, Nat.sub_zero, show ((0 : Nat) : Int) = 0 from rfl] at C0
  have HR := Lib.hid h
  obtain ⟨P, hP⟩ : ∃ P, P = pos T := ⟨_, rfl⟩
  have hk : unle 4 T = P := by rw [hP]; rfl
  rw [hk] at K
  have bP : P ≤ 100000 := by omega
  have HP := Lib.hid hP
  clear h hk hP
  go_enter Tryz.func124, Tryz.ntmps124
  go_wp2_with (first
    | (go_at_call 152; (with_reducible refine K.out.mono ?_); rintro e w1 ⟨rfl, rfl⟩)
    | (go_at_call 159; (with_reducible refine (initA w g o L cc P).mono ?_); rintro e w1 ⟨rfl, rfl⟩))
  go_ret
  have hb : Below w.heap.size w (w.alloc (.cells #[.slice (some ⟨g, o, none⟩) L cc, .int .u32 (P : Int)] 156)) := (Below.refl _ _).alloc (Nat.le_refl _) _
  refine ⟨w.heap.size, rfl, Nat.le_refl _, ⟨⟨156, ?_⟩, HR.out.below hb (Nat.le_refl _), ht, hp⟩, hb⟩
  rw [heap_alloc_new, HP.out]

set_option maxRecDepth 100000 in
theorem tableA {w : World} {t g o L cc : Nat} {T : List Nat} (h : Tbl w t g o L cc T) :
    Calls Tryz.prog 171 #[.pointer (some ⟨t, 0, none⟩)] w fun e w' => e = .returned (.agg #[.slice (some ⟨g, o, none⟩) L cc, .int .u32 ((pos T : Nat) : Int)]) ∧ Below w.heap.size w w' := by
  have c0 := h.c0
  have c1 := h.c1
  obtain ⟨ty, hr⟩ := h.row
  have hlt := lt_of_obj hr
  have hne : t ≠ w.heap.size := by omega
  obtain ⟨P, hP⟩ : ∃ P, P = pos T := ⟨_, rfl⟩
  rw [← hP] at c1 ⊢
  clear h hr hP
  go_enter Tryz.func171, Tryz.ntmps171
  go_wp2
  refine bodyPost_ret (results_cell_row rfl _ _ w.heap.size 148 #[.slice (some ⟨g, o, none⟩) L cc, .int .u32 (P : Int)] (0, 0) _ rfl (heap_alloc_new _ _) Tryz.underlying148 rfl (by kernel_rfl)) rfl ?_
  exact ⟨rfl, (Below.refl _ _).alloc (Nat.le_refl _) _⟩

set_option maxRecDepth 100000 in
theorem koffP {w : World} {t g o L cc n : Nat} {T : List Nat} (h : Tbl w t g o L cc T) (M : Msgy T n) {c : Nat} {ys : List Nat} (V : Vec T 1 c ys) (hy : ys.length = 2 * c) (hc : c ≤ 1000) :
    Calls Tryz.prog 137 #[.pointer (some ⟨t, 0, none⟩)] w fun e w' => e = .returned (.slice (cutA (some ⟨g, o, none⟩) cc (ind T 1 + 4)) (2 * c) (cc - (ind T 1 + 4))) ∧ Below w.heap.size w w' := by
  have hl := h.len
  have ht := h.top
  have hcc := h.rb.le
  have hct := h.rb.top
  unfold maxLen at hct
  have v1 := V.fit
  have bF0 := h.fld_lt 1
  have KL := Lib.hid (pKOL h M V (by omega))
  have KO := Lib.hid fun (w1 : World) (t1 : Nat) (h1 : Tbl w1 t1 g o L cc T) => tOff h1 M 1 6 (by decide)
  have KV := Lib.hid fun (w1 : World) (t1 : Nat) (h1 : Tbl w1 t1 g o L cc T) => tVe h1 V (by omega) (V.d0 (by omega))
  have HT := Lib.hid h
  obtain ⟨F, hF⟩ : ∃ F, F = fld T 1 := ⟨_, rfl⟩
  obtain ⟨P, hP⟩ : ∃ P, P = pos T := ⟨_, rfl⟩
  obtain ⟨J, hJ⟩ : ∃ J, J = ind T 1 + 4 := ⟨_, rfl⟩
  obtain ⟨S, hS⟩ : ∃ S, S = 2 * c := ⟨_, rfl⟩
  obtain ⟨E, hE⟩ : ∃ E, E = J + S := ⟨_, rfl⟩
  rw [← hF] at KO KV bF0
  rw [← hJ] at KV v1 ⊢
  rw [← hS] at hy ⊢
  have HP := Lib.hid hP
  have e1 : (c : Int) * 2 = (S : Int) := by omega
  have e2 : (J : Int) + (S : Int) = (E : Int) := by omega
  have bJ : J ≤ 100000 := by omega
  have bE : E ≤ 100000 := by omega
  have C3 := cutLH (k := .i64) (k' := .i64) (some ⟨g, o, none⟩) L cc J E S (by omega) (by omega) (by omega)
  clear h M V hF hP hJ hS hE v1 hy
  go_enter Tryz.func137, Tryz.ntmps137
  go_wp2_with (first
    | (go_at_call 167; (with_reducible refine KL.out.mono ?_); rintro e w1 ⟨rfl, hw1⟩; have B1 := Lib.hid (drew_below hw1); have H1 := Lib.hid (tbl_of HT.out hw1); clear hw1)
    | (go_at_call 168; (with_reducible refine (tableP H1.out).mono ?_); rintro e w2 ⟨rfl, hb2⟩; have B2 := Lib.hid hb2; have H2 := Lib.hid (tbl_new (H1.out.below hb2) P HP.out); rw [← HP.out]; clear hb2)
    | (go_at_call 154; (with_reducible refine (KO.out _ _ H2.out).mono ?_); rintro e w3 ⟨rfl, hw3⟩; have B3 := Lib.hid (drew_below hw3); have H3 := Lib.hid (tbl_of H2.out hw3); have c03 := H3.out.c0; clear hw3)
    | (go_at_call 157; (with_reducible refine (KV.out _ _ H3.out).mono ?_); rintro e w4 ⟨rfl, rfl⟩))
  go_ret
  exact ⟨rfl, ((B1.out.trans (B2.out.mono B1.out.size)).alloc (Nat.le_trans B1.out.size B2.out.size) _).trans (B3.out.mono (by have := B1.out.size; have := B2.out.size; simp; omega))⟩

set_option maxRecDepth 100000 in
theorem voffP {w : World} {t g o L cc n : Nat} {T : List Nat} (h : Tbl w t g o L cc T) (M : Msgy T n) {c : Nat} {ys : List Nat} (V : Vec T 4 c ys) (hy : ys.length = 2 * c) (hc : c ≤ 1000) :
    Calls Tryz.prog 138 #[.pointer (some ⟨t, 0, none⟩)] w fun e w' => e = .returned (.slice (cutA (some ⟨g, o, none⟩) cc (ind T 4 + 4)) (2 * c) (cc - (ind T 4 + 4))) ∧ Below w.heap.size w w' := by
  have hl := h.len
  have ht := h.top
  have hcc := h.rb.le
  have hct := h.rb.top
  unfold maxLen at hct
  have v1 := V.fit
  have bF0 := h.fld_lt 4
  have KL := Lib.hid (pVOL h M V (by omega))
  have KO := Lib.hid fun (w1 : World) (t1 : Nat) (h1 : Tbl w1 t1 g o L cc T) => tOff h1 M 4 12 (by decide)
  have KV := Lib.hid fun (w1 : World) (t1 : Nat) (h1 : Tbl w1 t1 g o L cc T) => tVe h1 V (by omega) (V.d0 (by omega))
  have HT := Lib.hid h
  obtain ⟨F, hF⟩ : ∃ F, F = fld T 4 := ⟨_, rfl⟩
  obtain ⟨P, hP⟩ : ∃ P, P = pos T := ⟨_, rfl⟩
  obtain ⟨J, hJ⟩ : ∃ J, J = ind T 4 + 4 := ⟨_, rfl⟩
  obtain ⟨S, hS⟩ : ∃ S, S = 2 * c := ⟨_, rfl⟩
  obtain ⟨E, hE⟩ : ∃ E, E = J + S := ⟨_, rfl⟩
  rw [← hF] at KO KV bF0
  rw [← hJ] at KV v1 ⊢
  rw [← hS] at hy ⊢
  have HP := Lib.hid hP
  have e1 : (c : Int) * 2 = (S : Int) := by omega
  have e2 : (J : Int) + (S : Int) = (E : Int) := by omega
  have bJ : J ≤ 100000 := by omega
  have bE : E ≤ 100000 := by omega
  have C3 := cutLH (k := .i64) (k' := .i64) (some ⟨g, o, none⟩) L cc J E S (by omega) (by omega) (by omega)
  clear h M V hF hP hJ hS hE v1 hy
  go_enter Tryz.func138, Tryz.ntmps138
  go_wp2_with (first
    | (go_at_call 169; (with_reducible refine KL.out.mono ?_); rintro e w1 ⟨rfl, hw1⟩; have B1 := Lib.hid (drew_below hw1); have H1 := Lib.hid (tbl_of HT.out hw1); clear hw1)
    | (go_at_call 168; (with_reducible refine (tableP H1.out).mono ?_); rintro e w2 ⟨rfl, hb2⟩; have B2 := Lib.hid hb2; have H2 := Lib.hid (tbl_new (H1.out.below hb2) P HP.out); rw [← HP.out]; clear hb2)
    | (go_at_call 154; (with_reducible refine (KO.out _ _ H2.out).mono ?_); rintro e w3 ⟨rfl, hw3⟩; have B3 := Lib.hid (drew_below hw3); have H3 := Lib.hid (tbl_of H2.out hw3); have c03 := H3.out.c0; clear hw3)
    | (go_at_call 157; (with_reducible refine (KV.out _ _ H3.out).mono ?_); rintro e w4 ⟨rfl, rfl⟩))
  go_ret
  exact ⟨rfl, ((B1.out.trans (B2.out.mono B1.out.size)).alloc (Nat.le_trans B1.out.size B2.out.size) _).trans (B3.out.mono (by have := B1.out.size; have := B2.out.size; simp; omega))⟩

set_option maxRecDepth 100000 in
theorem koffA {w : World} {t g o L cc n : Nat} {T : List Nat} (h : Tbl w t g o L cc T) (M : Msgy T n) {c : Nat} {ys : List Nat} (V : Vec T 1 c ys) (hy : ys.length = 2 * c) (hc : c ≤ 1000) :
    Calls Tryz.prog 141 #[.pointer (some ⟨t, 0, none⟩)] w fun e w' => e = .returned (.slice (cutA (some ⟨g, o, none⟩) cc (ind T 1 + 4)) (2 * c) (cc - (ind T 1 + 4))) ∧ Below w.heap.size w w' := by
  have hl := h.len
  have ht := h.top
  have hcc := h.rb.le
  have hct := h.rb.top
  unfold maxLen at hct
  have v1 := V.fit
  have bF0 := h.fld_lt 1
  have KL := Lib.hid (aKOL h M V (by omega))
  have KO := Lib.hid fun (w1 : World) (t1 : Nat) (h1 : Tbl w1 t1 g o L cc T) => tOff h1 M 1 6 (by decide)
  have KV := Lib.hid fun (w1 : World) (t1 : Nat) (h1 : Tbl w1 t1 g o L cc T) => tVe h1 V (by omega) (V.d0 (by omega))
  have HT := Lib.hid h
  obtain ⟨F, hF⟩ : ∃ F, F = fld T 1 := ⟨_, rfl⟩
  obtain ⟨P, hP⟩ : ∃ P, P = pos T := ⟨_, rfl⟩
  obtain ⟨J, hJ⟩ : ∃ J, J = ind T 1 + 4 := ⟨_, rfl⟩
  obtain ⟨S, hS⟩ : ∃ S, S = 2 * c := ⟨_, rfl⟩
  obtain ⟨E, hE⟩ : ∃ E, E = J + S := ⟨_, rfl⟩
  rw [← hF] at KO KV bF0
  rw [← hJ] at KV v1 ⊢
  rw [← hS] at hy ⊢
  have HP := Lib.hid hP
  have e1 : (c : Int) * 2 = (S : Int) := by omega
  have e2 : (J : Int) + (S : Int) = (E : Int) := by omega
  have bJ : J ≤ 100000 := by omega
  have bE : E ≤ 100000 := by omega
  have C3 := cutLH (k := .i64) (k' := .i64) (some ⟨g, o, none⟩) L cc J E S (by omega) (by omega) (by omega)
  clear h M V hF hP hJ hS hE v1 hy
  go_enter Tryz.func141, Tryz.ntmps141
  go_wp2_with (first
    | (go_at_call 143; (with_reducible refine KL.out.mono ?_); rintro e w1 ⟨rfl, hw1⟩; have B1 := Lib.hid (drew_below hw1); have H1 := Lib.hid (tbl_of HT.out hw1); clear hw1)
    | (go_at_call 171; (with_reducible refine (tableA H1.out).mono ?_); rintro e w2 ⟨rfl, hb2⟩; have B2 := Lib.hid hb2; have H2 := Lib.hid (tbl_new (H1.out.below hb2) P HP.out); rw [← HP.out]; clear hb2)
    | (go_at_call 154; (with_reducible refine (KO.out _ _ H2.out).mono ?_); rintro e w3 ⟨rfl, hw3⟩; have B3 := Lib.hid (drew_below hw3); have H3 := Lib.hid (tbl_of H2.out hw3); have c03 := H3.out.c0; clear hw3)
    | (go_at_call 157; (with_reducible refine (KV.out _ _ H3.out).mono ?_); rintro e w4 ⟨rfl, rfl⟩))
  go_ret
  exact ⟨rfl, ((B1.out.trans (B2.out.mono B1.out.size)).alloc (Nat.le_trans B1.out.size B2.out.size) _).trans (B3.out.mono (by have := B1.out.size; have := B2.out.size; simp; omega))⟩
end Go.Proofs.YtegohkgmamnkdaaGreat.Msg
/- A message's kind, level, tree count and how many items it has, walked. Condition: the bytes are a message. -/
set_option linter.unusedVariables false
namespace Go.Proofs.YtegohkgmamnkdaaGreat.Msg
open Go.ChangeShapes Go.WideShapes Go.ChangeAt Go.RowKit
open Go.Proofs.YtegohkgmamnkdaaGreat.Dig Go.Proofs.YtegohkgmamnkdaaGreat.Mem Go.Proofs.YtegohkgmamnkdaaGreat.Rb

theorem bytesText (w : World) (a : Option Addr) (n c : Nat) (xs : List Nat) (h : RB w a n c xs) :
    Calls Tryz.prog 116 #[.slice a n c] w fun e w' => e = .returned (.string (txt xs)) ∧ w = w' := by
  have h1 := run_text (P := Tryz.prog) (dst := 9) Tryz.underlying26 Tryz.underlying5 Tryz.underlying9 h
  clear h
  go_enter Tryz.func116, Tryz.ntmps116
  go_wp2
  go_ret
  exact ⟨rfl, rfl⟩

theorem bw {w a b : World} (h : Below w.heap.size w a) (k : Below a.heap.size a b) : Below w.heap.size w b := h.trans (k.mono h.size)
/-- A message that came to be: its bytes, its kind, its table. -/
structure Mess (w : World) (g o L cc n : Nat) (T id : List Nat) : Prop where
  rb : RB w (some ⟨g, o, none⟩) L cc T
  top : L ≤ 100000
  m : Msgy T n
  id : (T.drop 4).take 4 = id
  l8 : 8 ≤ L
theorem Mess.below {w w' : World} {g o L cc n : Nat} {T id : List Nat} (h : Mess w g o L cc n T id) (hb : Below w.heap.size w w') : Mess w' g o L cc n T id := ⟨h.rb.below hb (Nat.le_refl _), h.top, h.m, h.id, h.l8⟩
theorem Mess.pos4 {w : World} {g o L cc n : Nat} {T id : List Nat} (h : Mess w g o L cc n T id) : pos T + 4 ≤ L := by have := h.m.pos4; have := h.rb.len; omega

set_option maxRecDepth 100000 in
theorem fileId {w : World} {g o L cc n : Nat} {T id : List Nat} (h : Mess w g o L cc n T id) (B : ByteArray) (hB : txt id = B) :
    Calls Tryz.prog 88 #[.slice (some ⟨g, o, none⟩) L cc] w fun e w' => e = .returned (.string B) ∧ w = w' := by
  have h1 := h.rb.le
  have h2 := h.rb.top
  unfold maxLen at h2
  have h3 := h.l8
  have hr := h.rb.cut (lo := 4) (hi := 8) (by omega) h.l8
  rw [show 8 - 4 = 4 from rfl, h.id] at hr
  have K := Lib.hid (bytesText w _ _ _ _ hr)
  rw [hB] at K
  have C3 := cutLH (k := .i64) (k' := .i64) (some ⟨g, o, none⟩) L cc 4 8 4 (by omega) (by omega) rfl
  rw [show ((4 : Nat) : Int) = 4 from rfl, show ((8 : Nat) : Int) = 8 from rfl] at C3
  have q : ¬ (L : Int) < 8 := by omega
  clear h hr
  go_enter Tryz.func88, Tryz.ntmps88
  go_wp2_with (go_at_call 116; (with_reducible refine K.out.mono ?_); rintro e w1 ⟨rfl, rfl⟩)
  go_ret
  exact ⟨rfl, rfl⟩
def BP : ByteArray := ⟨#[84, 85, 80, 77]⟩
def BA : ByteArray := ⟨#[65, 68, 82, 77]⟩
def fidAdr : List Nat := [65, 68, 82, 77]
theorem txtP : txt fidMap = ⟨#[84, 85, 80, 77]⟩ := rfl
theorem txtA : txt fidAdr = ⟨#[65, 68, 82, 77]⟩ := rfl

set_option maxRecDepth 100000 in
theorem lvlP {w : World} {g o L cc n v : Nat} {T id : List Nat} (h : Mess w g o L cc n T id) (V : Num T 1 10 v) (hv : v < 256) :
    Calls Tryz.prog 110 #[.slice (some ⟨g, o, none⟩) L cc] w fun e w' => e = .returned (.int .i64 (v : Int)) ∧ Below w.heap.size w w' := by
  have KR := Lib.hid (rootP h.rb h.top h.pos4)
  have KL := Lib.hid fun (w1 : World) (t : Nat) (h1 : Tbl w1 t g o L cc T) => pTL h1 h.m V
  clear h V
  go_enter Tryz.func110, Tryz.ntmps110
  go_wp2_with (first
    | (go_at_call 117; (with_reducible refine KR.out.mono ?_); rintro e w1 ⟨t, rfl, ht, h1, hb1⟩; have H1 := Lib.hid h1; have B1 := Lib.hid hb1; clear h1 hb1 ht)
    | (go_at_call 144; (with_reducible refine (KL.out _ _ H1.out).mono ?_); rintro e w2 ⟨rfl, hw2⟩; have B2 := Lib.hid (drew_below hw2); clear hw2))
  go_ret
  exact ⟨rfl, bw B1.out B2.out⟩

set_option maxRecDepth 100000 in
theorem lvlA {w : World} {g o L cc n v : Nat} {T id : List Nat} (h : Mess w g o L cc n T id) (V : Num T 1 5 v) (hv : v < 256) :
    Calls Tryz.prog 111 #[.slice (some ⟨g, o, none⟩) L cc] w fun e w' => e = .returned (.int .i64 (v : Int)) ∧ Below w.heap.size w w' := by
  have KR := Lib.hid (rootA h.rb h.top h.pos4)
  have KL := Lib.hid fun (w1 : World) (t : Nat) (h1 : Tbl w1 t g o L cc T) => aTL h1 h.m V
  clear h V
  go_enter Tryz.func111, Tryz.ntmps111
  go_wp2_with (first
    | (go_at_call 124; (with_reducible refine KR.out.mono ?_); rintro e w1 ⟨t, rfl, ht, h1, hb1⟩; have H1 := Lib.hid h1; have B1 := Lib.hid hb1; clear h1 hb1 ht)
    | (go_at_call 145; (with_reducible refine (KL.out _ _ H1.out).mono ?_); rintro e w2 ⟨rfl, hw2⟩; have B2 := Lib.hid (drew_below hw2); clear hw2))
  go_ret
  exact ⟨rfl, bw B1.out B2.out⟩

set_option maxRecDepth 100000 in
theorem cntP {w : World} {g o L cc n v : Nat} {T id : List Nat} (h : Mess w g o L cc n T id) (V : Num T 8 9 v) (hv : v < 9223372036854775808) :
    Calls Tryz.prog 112 #[.slice (some ⟨g, o, none⟩) L cc] w fun e w' => e = .returned (.int .i64 (v : Int)) ∧ Below w.heap.size w w' := by
  have KR := Lib.hid (rootP h.rb h.top h.pos4)
  have KL := Lib.hid fun (w1 : World) (t : Nat) (h1 : Tbl w1 t g o L cc T) => pTC h1 h.m V
  clear h V
  go_enter Tryz.func112, Tryz.ntmps112
  go_wp2_with (first
    | (go_at_call 117; (with_reducible refine KR.out.mono ?_); rintro e w1 ⟨t, rfl, ht, h1, hb1⟩; have H1 := Lib.hid h1; have B1 := Lib.hid hb1; clear h1 hb1 ht)
    | (go_at_call 146; (with_reducible refine (KL.out _ _ H1.out).mono ?_); rintro e w2 ⟨rfl, hw2⟩; have B2 := Lib.hid (drew_below hw2); clear hw2))
  go_ret
  exact ⟨rfl, bw B1.out B2.out⟩

set_option maxRecDepth 100000 in
theorem cntA {w : World} {g o L cc n v : Nat} {T id : List Nat} (h : Mess w g o L cc n T id) (V : Num T 8 4 v) (hv : v < 9223372036854775808) :
    Calls Tryz.prog 113 #[.slice (some ⟨g, o, none⟩) L cc] w fun e w' => e = .returned (.int .i64 (v : Int)) ∧ Below w.heap.size w w' := by
  have KR := Lib.hid (rootA h.rb h.top h.pos4)
  have KL := Lib.hid fun (w1 : World) (t : Nat) (h1 : Tbl w1 t g o L cc T) => aTC h1 h.m V
  clear h V
  go_enter Tryz.func113, Tryz.ntmps113
  go_wp2_with (first
    | (go_at_call 124; (with_reducible refine KR.out.mono ?_); rintro e w1 ⟨t, rfl, ht, h1, hb1⟩; have H1 := Lib.hid h1; have B1 := Lib.hid hb1; clear h1 hb1 ht)
    | (go_at_call 147; (with_reducible refine (KL.out _ _ H1.out).mono ?_); rintro e w2 ⟨rfl, hw2⟩; have B2 := Lib.hid (drew_below hw2); clear hw2))
  go_ret
  exact ⟨rfl, bw B1.out B2.out⟩

set_option maxRecDepth 100000 in
theorem itemsP {w : World} {g o L cc n c m : Nat} {T id xs ys : List Nat} (h : Mess w g o L cc n T id) (V : Vec T 0 c xs) (hc : c ≤ 100000) (c0 : 0 < c) (V' : Vec T 1 (m - 1) ys) (hm : m ≤ 200) (hm0 : 0 < m) :
    Calls Tryz.prog 174 #[.slice (some ⟨g, o, none⟩) L cc] w fun e w' => e = .returned (.int .u16 (m : Int)) ∧ Below w.heap.size w w' := by
  have KR := Lib.hid (rootP h.rb h.top h.pos4)
  have K1 := Lib.hid fun (w1 : World) (t : Nat) (h1 : Tbl w1 t g o L cc T) => pKIL h1 h.m V hc
  have K2 := Lib.hid fun (w1 : World) (t : Nat) (h1 : Tbl w1 t g o L cc T) => pKOL h1 h.m V' (by omega)
  obtain ⟨k, hk⟩ : ∃ k, k = m - 1 := ⟨_, rfl⟩
  rw [← hk] at K2
  have e1 : (k : Int) + 1 = (m : Int) := by omega
  have q0 : ¬ (c : Int) = 0 := by omega
  have bk : k ≤ 200 := by omega
  clear h V V' hk c0
  go_enter Tryz.func174, Tryz.ntmps174
  go_wp2_with (first
    | (go_at_call 117; (with_reducible refine KR.out.mono ?_); rintro e w1 ⟨t, rfl, ht, h1, hb1⟩; have H1 := Lib.hid h1; have B1 := Lib.hid hb1; clear h1 hb1 ht)
    | (go_at_call 184; (with_reducible refine (K1.out _ _ H1.out).mono ?_); rintro e w2 ⟨rfl, hw2⟩; have B2 := Lib.hid (drew_below hw2); have H2 := Lib.hid (tbl_of H1.out hw2); clear hw2)
    | (go_at_call 167; (with_reducible refine (K2.out _ _ H2.out).mono ?_); rintro e w3 ⟨rfl, hw3⟩; have B3 := Lib.hid (drew_below hw3); clear hw3))
  go_ret
  exact ⟨rfl, bw (bw B1.out B2.out) B3.out⟩

set_option maxRecDepth 100000 in
theorem itemsA {w : World} {g o L cc n c m : Nat} {T id xs ys : List Nat} (h : Mess w g o L cc n T id) (V : Vec T 0 c xs) (hc : c ≤ 100000) (c0 : 0 < c) (V' : Vec T 1 (m - 1) ys) (hm : m ≤ 200) (hm0 : 0 < m) :
    Calls Tryz.prog 109 #[.slice (some ⟨g, o, none⟩) L cc] w fun e w' => e = .returned (.int .u16 (m : Int)) ∧ Below w.heap.size w w' := by
  have KR := Lib.hid (rootA h.rb h.top h.pos4)
  have K1 := Lib.hid fun (w1 : World) (t : Nat) (h1 : Tbl w1 t g o L cc T) => aKIL h1 h.m V hc
  have K2 := Lib.hid fun (w1 : World) (t : Nat) (h1 : Tbl w1 t g o L cc T) => aKOL h1 h.m V' (by omega)
  obtain ⟨k, hk⟩ : ∃ k, k = m - 1 := ⟨_, rfl⟩
  rw [← hk] at K2
  have e1 : (k : Int) + 1 = (m : Int) := by omega
  have q0 : ¬ (c : Int) = 0 := by omega
  have bk : k ≤ 200 := by omega
  clear h V V' hk c0
  go_enter Tryz.func109, Tryz.ntmps109
  go_wp2_with (first
    | (go_at_call 124; (with_reducible refine KR.out.mono ?_); rintro e w1 ⟨t, rfl, ht, h1, hb1⟩; have H1 := Lib.hid h1; have B1 := Lib.hid hb1; clear h1 hb1 ht)
    | (go_at_call 142; (with_reducible refine (K1.out _ _ H1.out).mono ?_); rintro e w2 ⟨rfl, hw2⟩; have B2 := Lib.hid (drew_below hw2); have H2 := Lib.hid (tbl_of H1.out hw2); clear hw2)
    | (go_at_call 143; (with_reducible refine (K2.out _ _ H2.out).mono ?_); rintro e w3 ⟨rfl, hw3⟩; have B3 := Lib.hid (drew_below hw3); clear hw3))
  go_ret
  exact ⟨rfl, bw (bw B1.out B2.out) B3.out⟩
end Go.Proofs.YtegohkgmamnkdaaGreat.Msg
/- A node's level and tree count, asked of its message, walked. Condition: the bytes are a message. -/
set_option linter.unusedVariables false
namespace Go.Proofs.YtegohkgmamnkdaaGreat.Msg
open Go.ChangeShapes Go.WideShapes Go.ChangeAt Go.RowKit
open Go.Proofs.YtegohkgmamnkdaaGreat.Dig Go.Proofs.YtegohkgmamnkdaaGreat.Mem Go.Proofs.YtegohkgmamnkdaaGreat.Rb

set_option maxRecDepth 100000 in
theorem gLvlP {w : World} {g o L cc n v : Nat} {T : List Nat} (h : Mess w g o L cc n T fidMap) (V : Num T 1 10 v) (hv : v < 256) :
    Calls Tryz.prog 83 #[.slice (some ⟨g, o, none⟩) L cc] w fun e w' => e = .returned (.int .i64 (v : Int)) ∧ Below w.heap.size w w' := by
  have K1 := Lib.hid (fileId h ⟨#[84, 85, 80, 77]⟩ txtP)
  have K2 := Lib.hid (lvlP h V hv)
  have hcc := h.rb.le
  have hct := h.rb.top
  unfold maxLen at hct
  clear h V
  go_enter Tryz.func83, Tryz.ntmps83
  go_wp2_with (first
    | (go_at_call 88; (with_reducible refine K1.out.mono ?_); rintro e w1 ⟨rfl, rfl⟩)
    | (go_at_call 110; (with_reducible refine K2.out.mono ?_); rintro e w2 ⟨rfl, hb2⟩))
  go_ret
  exact ⟨rfl, hb2⟩

set_option maxRecDepth 100000 in
theorem gLvlA {w : World} {g o L cc n v : Nat} {T : List Nat} (h : Mess w g o L cc n T fidAdr) (V : Num T 1 5 v) (hv : v < 256) :
    Calls Tryz.prog 83 #[.slice (some ⟨g, o, none⟩) L cc] w fun e w' => e = .returned (.int .i64 (v : Int)) ∧ Below w.heap.size w w' := by
  have K1 := Lib.hid (fileId h ⟨#[65, 68, 82, 77]⟩ txtA)
  have K2 := Lib.hid (lvlA h V hv)
  have hcc := h.rb.le
  have hct := h.rb.top
  unfold maxLen at hct
  clear h V
  go_enter Tryz.func83, Tryz.ntmps83
  go_wp2_with (first
    | (go_at_call 88; (with_reducible refine K1.out.mono ?_); rintro e w1 ⟨rfl, rfl⟩)
    | (go_at_call 111; (with_reducible refine K2.out.mono ?_); rintro e w2 ⟨rfl, hb2⟩))
  go_ret
  exact ⟨rfl, hb2⟩

set_option maxRecDepth 100000 in
theorem gCntP {w : World} {g o L cc n v : Nat} {T : List Nat} (h : Mess w g o L cc n T fidMap) (V : Num T 8 9 v) (hv : v < 9223372036854775808) :
    Calls Tryz.prog 84 #[.slice (some ⟨g, o, none⟩) L cc] w fun e w' => e = .returned (.int .i64 (v : Int)) ∧ Below w.heap.size w w' := by
  have K1 := Lib.hid (fileId h ⟨#[84, 85, 80, 77]⟩ txtP)
  have K2 := Lib.hid (cntP h V hv)
  have hcc := h.rb.le
  have hct := h.rb.top
  unfold maxLen at hct
  clear h V
  go_enter Tryz.func84, Tryz.ntmps84
  go_wp2_with (first
    | (go_at_call 88; (with_reducible refine K1.out.mono ?_); rintro e w1 ⟨rfl, rfl⟩)
    | (go_at_call 112; (with_reducible refine K2.out.mono ?_); rintro e w2 ⟨rfl, hb2⟩))
  go_ret
  exact ⟨rfl, hb2⟩

set_option maxRecDepth 100000 in
theorem gCntA {w : World} {g o L cc n v : Nat} {T : List Nat} (h : Mess w g o L cc n T fidAdr) (V : Num T 8 4 v) (hv : v < 9223372036854775808) :
    Calls Tryz.prog 84 #[.slice (some ⟨g, o, none⟩) L cc] w fun e w' => e = .returned (.int .i64 (v : Int)) ∧ Below w.heap.size w w' := by
  have K1 := Lib.hid (fileId h ⟨#[65, 68, 82, 77]⟩ txtA)
  have K2 := Lib.hid (cntA h V hv)
  have hcc := h.rb.le
  have hct := h.rb.top
  unfold maxLen at hct
  clear h V
  go_enter Tryz.func84, Tryz.ntmps84
  go_wp2_with (first
    | (go_at_call 88; (with_reducible refine K1.out.mono ?_); rintro e w1 ⟨rfl, rfl⟩)
    | (go_at_call 113; (with_reducible refine K2.out.mono ?_); rintro e w2 ⟨rfl, hb2⟩))
  go_ret
  exact ⟨rfl, hb2⟩

set_option maxRecDepth 100000 in
theorem nLvlP {w : World} {g o L cc n v : Nat} {T : List Nat} (h : Mess w g o L cc n T fidMap) (V : Num T 1 10 v) (hv : v < 256) (k0 k1 v0 v1 : Value) (m : Nat) (hm : m ≤ 200) (c0 : k0.oneCell' = true) (c1 : k1.oneCell' = true) (c2 : v0.oneCell' = true) (c3 : v1.oneCell' = true) :
    Calls Tryz.prog 38 #[.agg #[k0, k1, v0, v1, .int .u16 (m : Int), .slice (some ⟨g, o, none⟩) L cc]] w fun e w' => e = .returned (.int .i64 (v : Int)) ∧ Below w.heap.size w w' := by
  have hcc := h.rb.le
  have hct := h.rb.top
  unfold maxLen at hct
  have K2 := Lib.hid (gLvlP (h.below (w' := w.alloc (.cells #[k0, k1, v0, v1, .int .u16 (m : Int), .slice (some ⟨g, o, none⟩) L cc] 71)) ((Below.refl _ _).alloc (Nat.le_refl _) _)) V hv)
  clear h V
  go_enter Tryz.func38, Tryz.ntmps38
  go_wp2_with (go_at_call 83; (with_reducible refine K2.out.mono ?_); rintro e w2 ⟨rfl, hb2⟩)
  go_ret
  exact ⟨rfl, bw ((Below.refl _ _).alloc (Nat.le_refl _) _) hb2⟩

set_option maxRecDepth 100000 in
theorem nLvlA {w : World} {g o L cc n v : Nat} {T : List Nat} (h : Mess w g o L cc n T fidAdr) (V : Num T 1 5 v) (hv : v < 256) (k0 k1 v0 v1 : Value) (m : Nat) (hm : m ≤ 200) (c0 : k0.oneCell' = true) (c1 : k1.oneCell' = true) (c2 : v0.oneCell' = true) (c3 : v1.oneCell' = true) :
    Calls Tryz.prog 38 #[.agg #[k0, k1, v0, v1, .int .u16 (m : Int), .slice (some ⟨g, o, none⟩) L cc]] w fun e w' => e = .returned (.int .i64 (v : Int)) ∧ Below w.heap.size w w' := by
  have hcc := h.rb.le
  have hct := h.rb.top
  unfold maxLen at hct
  have K2 := Lib.hid (gLvlA (h.below (w' := w.alloc (.cells #[k0, k1, v0, v1, .int .u16 (m : Int), .slice (some ⟨g, o, none⟩) L cc] 71)) ((Below.refl _ _).alloc (Nat.le_refl _) _)) V hv)
  clear h V
  go_enter Tryz.func38, Tryz.ntmps38
  go_wp2_with (go_at_call 83; (with_reducible refine K2.out.mono ?_); rintro e w2 ⟨rfl, hb2⟩)
  go_ret
  exact ⟨rfl, bw ((Below.refl _ _).alloc (Nat.le_refl _) _) hb2⟩

set_option maxRecDepth 100000 in
theorem nCntP {w : World} {g o L cc n v : Nat} {T : List Nat} (h : Mess w g o L cc n T fidMap) (V : Num T 8 9 v) (hv : v < 9223372036854775808) (k0 k1 v0 v1 : Value) (m : Nat) (hm : m ≤ 200) (c0 : k0.oneCell' = true) (c1 : k1.oneCell' = true) (c2 : v0.oneCell' = true) (c3 : v1.oneCell' = true) :
    Calls Tryz.prog 40 #[.agg #[k0, k1, v0, v1, .int .u16 (m : Int), .slice (some ⟨g, o, none⟩) L cc]] w fun e w' => e = .returned (.int .i64 (v : Int)) ∧ Below w.heap.size w w' := by
  have hcc := h.rb.le
  have hct := h.rb.top
  unfold maxLen at hct
  have K2 := Lib.hid (gCntP (h.below (w' := w.alloc (.cells #[k0, k1, v0, v1, .int .u16 (m : Int), .slice (some ⟨g, o, none⟩) L cc] 71)) ((Below.refl _ _).alloc (Nat.le_refl _) _)) V hv)
  clear h V
  go_enter Tryz.func40, Tryz.ntmps40
  go_wp2_with (go_at_call 84; (with_reducible refine K2.out.mono ?_); rintro e w2 ⟨rfl, hb2⟩)
  go_ret
  exact ⟨rfl, bw ((Below.refl _ _).alloc (Nat.le_refl _) _) hb2⟩

set_option maxRecDepth 100000 in
theorem nCntA {w : World} {g o L cc n v : Nat} {T : List Nat} (h : Mess w g o L cc n T fidAdr) (V : Num T 8 4 v) (hv : v < 9223372036854775808) (k0 k1 v0 v1 : Value) (m : Nat) (hm : m ≤ 200) (c0 : k0.oneCell' = true) (c1 : k1.oneCell' = true) (c2 : v0.oneCell' = true) (c3 : v1.oneCell' = true) :
    Calls Tryz.prog 40 #[.agg #[k0, k1, v0, v1, .int .u16 (m : Int), .slice (some ⟨g, o, none⟩) L cc]] w fun e w' => e = .returned (.int .i64 (v : Int)) ∧ Below w.heap.size w w' := by
  have hcc := h.rb.le
  have hct := h.rb.top
  unfold maxLen at hct
  have K2 := Lib.hid (gCntA (h.below (w' := w.alloc (.cells #[k0, k1, v0, v1, .int .u16 (m : Int), .slice (some ⟨g, o, none⟩) L cc] 71)) ((Below.refl _ _).alloc (Nat.le_refl _) _)) V hv)
  clear h V
  go_enter Tryz.func40, Tryz.ntmps40
  go_wp2_with (go_at_call 84; (with_reducible refine K2.out.mono ?_); rintro e w2 ⟨rfl, hb2⟩)
  go_ret
  exact ⟨rfl, bw ((Below.refl _ _).alloc (Nat.le_refl _) _) hb2⟩

set_option maxRecDepth 100000 in
theorem nCount (w : World) (g o L cc : Nat) (k0 k1 v0 v1 : Value) (m : Nat) (hm : m ≤ 200) (c0 : k0.oneCell' = true) (c1 : k1.oneCell' = true) (c2 : v0.oneCell' = true) (c3 : v1.oneCell' = true) :
    Calls Tryz.prog 39 #[.agg #[k0, k1, v0, v1, .int .u16 (m : Int), .slice (some ⟨g, o, none⟩) L cc]] w fun e w' => e = .returned (.int .i64 (m : Int)) ∧ Below w.heap.size w w' := by
  go_enter Tryz.func39, Tryz.ntmps39
  go_wp2
  go_ret
  exact ⟨rfl, (Below.refl _ _).alloc (Nat.le_refl _) _⟩

set_option maxRecDepth 100000 in
theorem nBytes (w : World) (g o L cc : Nat) (k0 k1 v0 v1 : Value) (m : Nat) (hm : m ≤ 200) (c0 : k0.oneCell' = true) (c1 : k1.oneCell' = true) (c2 : v0.oneCell' = true) (c3 : v1.oneCell' = true) (hL : L ≤ cc) (hcc : cc ≤ 9223372036854775807) :
    Calls Tryz.prog 91 #[.agg #[k0, k1, v0, v1, .int .u16 (m : Int), .slice (some ⟨g, o, none⟩) L cc]] w fun e w' => e = .returned (.slice (some ⟨g, o, none⟩) L cc) ∧ Below w.heap.size w w' := by
  go_enter Tryz.func91, Tryz.ntmps91
  go_wp2
  go_ret
  exact ⟨rfl, (Below.refl _ _).alloc (Nat.le_refl _) _⟩

set_option maxRecDepth 100000 in
theorem doorBytes (w : World) (g o L cc : Nat) (k0 k1 v0 v1 : Value) (m : Nat) (hm : m ≤ 200) (c0 : k0.oneCell' = true) (c1 : k1.oneCell' = true) (c2 : v0.oneCell' = true) (c3 : v1.oneCell' = true) (hL : L ≤ cc) (hcc : cc ≤ 9223372036854775807) :
    Calls Tryz.prog 46 #[.agg #[k0, k1, v0, v1, .int .u16 (m : Int), .slice (some ⟨g, o, none⟩) L cc]] w fun e w' => e = .returned (.slice (some ⟨g, o, none⟩) L cc) ∧ Below w.heap.size w w' := by
  go_enter Tryz.func46, Tryz.ntmps46
  go_wp2_with (go_at_call 91; (with_reducible refine (nBytes _ g o L cc k0 k1 v0 v1 m hm c0 c1 c2 c3 hL hcc).mono ?_); rintro e w2 ⟨rfl, hb2⟩)
  go_ret
  exact ⟨rfl, bw ((Below.refl _ _).alloc (Nat.le_refl _) _) hb2⟩

set_option maxRecDepth 100000 in
theorem isLeafP {w : World} {g o L cc n v : Nat} {T : List Nat} (h : Mess w g o L cc n T fidMap) (V : Num T 1 10 v) (hv : v < 256) (k0 k1 v0 v1 : Value) (m : Nat) (hm : m ≤ 200) (c0 : k0.oneCell' = true) (c1 : k1.oneCell' = true) (c2 : v0.oneCell' = true) (c3 : v1.oneCell' = true) :
    Calls Tryz.prog 43 #[.agg #[k0, k1, v0, v1, .int .u16 (m : Int), .slice (some ⟨g, o, none⟩) L cc]] w fun e w' => e = .returned (.bool (decide ((v : Int) = 0))) ∧ Below w.heap.size w w' := by
  have hcc := h.rb.le
  have hct := h.rb.top
  unfold maxLen at hct
  have K2 := Lib.hid (nLvlP (h.below (w' := w.alloc (.cells #[k0, k1, v0, v1, .int .u16 (m : Int), .slice (some ⟨g, o, none⟩) L cc] 71)) ((Below.refl _ _).alloc (Nat.le_refl _) _)) V hv k0 k1 v0 v1 m hm c0 c1 c2 c3)
  clear h V
  go_enter Tryz.func43, Tryz.ntmps43
  go_wp2_with (go_at_call 38; (with_reducible refine K2.out.mono ?_); rintro e w2 ⟨rfl, hb2⟩)
  go_ret
  exact ⟨rfl, bw ((Below.refl _ _).alloc (Nat.le_refl _) _) hb2⟩

set_option maxRecDepth 100000 in
theorem isLeafA {w : World} {g o L cc n v : Nat} {T : List Nat} (h : Mess w g o L cc n T fidAdr) (V : Num T 1 5 v) (hv : v < 256) (k0 k1 v0 v1 : Value) (m : Nat) (hm : m ≤ 200) (c0 : k0.oneCell' = true) (c1 : k1.oneCell' = true) (c2 : v0.oneCell' = true) (c3 : v1.oneCell' = true) :
    Calls Tryz.prog 43 #[.agg #[k0, k1, v0, v1, .int .u16 (m : Int), .slice (some ⟨g, o, none⟩) L cc]] w fun e w' => e = .returned (.bool (decide ((v : Int) = 0))) ∧ Below w.heap.size w w' := by
  have hcc := h.rb.le
  have hct := h.rb.top
  unfold maxLen at hct
  have K2 := Lib.hid (nLvlA (h.below (w' := w.alloc (.cells #[k0, k1, v0, v1, .int .u16 (m : Int), .slice (some ⟨g, o, none⟩) L cc] 71)) ((Below.refl _ _).alloc (Nat.le_refl _) _)) V hv k0 k1 v0 v1 m hm c0 c1 c2 c3)
  clear h V
  go_enter Tryz.func43, Tryz.ntmps43
  go_wp2_with (go_at_call 38; (with_reducible refine K2.out.mono ?_); rintro e w2 ⟨rfl, hb2⟩)
  go_ret
  exact ⟨rfl, bw ((Below.refl _ _).alloc (Nat.le_refl _) _) hb2⟩
end Go.Proofs.YtegohkgmamnkdaaGreat.Msg
/- The reading of two bytes as a number, and of a part of a sliced buffer, walked. Conditions: the offsets rise and stay in the buffer. -/
set_option linter.unusedVariables false
namespace Go.Proofs.YtegohkgmamnkdaaGreat.Msg
open Go.ChangeShapes Go.WideShapes Go.ChangeAt Go.RowKit
open Go.Proofs.YtegohkgmamnkdaaGreat.Dig Go.Proofs.YtegohkgmamnkdaaGreat.Mem Go.Proofs.YtegohkgmamnkdaaGreat.Rb
theorem expectSize (w : World) (a : Option Addr) (c : Nat) :
    Calls Tryz.prog 148 #[.slice a 2 c, .int .u16 2] w fun e w' => e = .returned (.tuple #[]) ∧ w = w' := by
  go_enter Tryz.func148, Tryz.ntmps148
  go_wp2
  go_end0
  exact ⟨rfl, rfl⟩

theorem or_u16 (x y : Nat) (bx : x < 256) (by_ : y < 256) : bits .or .u16 ((x : Nat) : Int) (((y : Nat) : Int) * 256) = ((x + 256 * y : Nat) : Int) := by
  have e : ((y : Nat) : Int) * 256 = ((y * 256 : Nat) : Int) := by omega
  rw [e, u16_or_nat _ _ (by omega) (by omega), Nat.or_comm]
  rw [show y * 256 = 2 ^ 8 * y by omega, ← Nat.two_pow_add_eq_or_of_lt (by omega : x < 2 ^ 8)]
  congr 1
  omega
theorem uint16 (w : World) (b o c x y : Nat) (hx : w.cell? ⟨b, o, none⟩ = some (.int .u8 (x : Int))) (hy : w.cell? ⟨b, o + 1, none⟩ = some (.int .u8 (y : Int))) (bx : x < 256) (by_ : y < 256) :
    Calls Tryz.prog 149 #[.agg #[], .slice (some ⟨b, o, none⟩) 2 c] w fun e w' => e = .returned (.int .u16 ((x + 256 * y : Nat) : Int)) ∧ Below w.heap.size w w' := by
  have hx1 : ∀ O, (w.alloc O).cell? ⟨b, o, none⟩ = some (.int .u8 (x : Int)) := fun O => by rw [World.cell?_alloc_lt w O _ (lt_of_cell hx), hx]
  have hy1 : ∀ O, (w.alloc O).cell? ⟨b, o + 1, none⟩ = some (.int .u8 (y : Int)) := fun O => by rw [World.cell?_alloc_lt w O _ (lt_of_cell hy), hy]
  clear hx hy
  go_enter Tryz.func149, Tryz.ntmps149
  go_wp2
  go_quiet (fail)
  go_wp2
  go_ret
  refine ⟨?_, bdn (by go_grown) _⟩
  rw [← or_u16 x y bx by_]
  rfl

theorem elem73 : Tryz.prog.elem 66 = 5 := by kernel_rfl
theorem elem27 : Tryz.prog.elem 26 = 5 := by kernel_rfl
theorem size1 (w : World) : (sizeOf 5).run Tryz.prog w = .ok 1 w := by kernel_rfl

theorem readUint16 (w : World) (b o c x y : Nat) (hx : w.cell? ⟨b, o, none⟩ = some (.int .u8 (x : Int))) (hy : w.cell? ⟨b, o + 1, none⟩ = some (.int .u8 (y : Int))) (bx : x < 256) (by_ : y < 256) :
    Calls Tryz.prog 114 #[.slice (some ⟨b, o, none⟩) 2 c] w fun e w' => e = .returned (.int .u16 ((x + 256 * y : Nat) : Int)) ∧ Below w.heap.size w w' := by
  have K := Lib.hid (uint16 w b o c x y hx hy bx by_)
  clear hx hy
  go_enter Tryz.func114, Tryz.ntmps114
  go_wp2_with (first
    | (go_at_call 148; refine (expectSize _ _ _).mono ?_; rintro e w1 ⟨rfl, rfl⟩)
    | (go_at_call 149; refine K.out.mono ?_; rintro e w1 ⟨rfl, hb⟩))
  go_ret
  exact ⟨rfl, hb⟩

/-- The number at place j of some offsets. -/
def off (os : List Nat) (j : Nat) : Nat := os.getD (j * 2) 0 + 256 * os.getD (j * 2 + 1) 0

theorem readAt {w0 : World} {b o m d : Nat} {os : List Nat} (hos : os.length = m) (hb : Bytes w0 b o os) (bx : ∀ x ∈ os, x < 256) (j : Nat) (hj : j * 2 + 1 < m) :
    ∀ w', Below w0.heap.size w0 w' → Calls Tryz.prog 114 #[.slice (some ⟨b, o + j * 2, none⟩) 2 (d - j * 2)] w' fun e w'' => e = .returned (.int .u16 ((off os j : Nat) : Int)) ∧ Below w'.heap.size w' w'' := by
  intro w' hbel
  have hb' := hb.below hbel (Nat.le_refl _)
  exact readUint16 w' b (o + j * 2) (d - j * 2) _ _ (by rw [hb' (j * 2) (by omega)]) (by rw [Nat.add_assoc, hb' (j * 2 + 1) (by omega)]) (getD_lt bx (by omega)) (getD_lt bx (by omega))

theorem cut27 (a : Option Addr) (n c lo hi : Nat) (h1 : lo ≤ hi) (h2 : hi ≤ c) :
    ∀ w, (Instr.slice 26 (.slice a n c) (some (.int .u16 (lo : Int))) (some (.int .u16 (hi : Int))) none).run Tryz.prog w = .ok (.slice (cutA a c lo) (hi - lo) (c - lo)) w := fun w =>
  cutA_run (by rw [elem27]; exact Tryz.underlying26) (by rw [elem27]; exact size1 w) a n c .u16 .u16 lo hi h1 h2

theorem getSlice (w : World) (a a' : Option Addr) (n c m d i lo hi : Nat) (os : List Nat) (ho : RB w a' m d os) (hn : n ≤ 60000) (hnc : n ≤ c) (hm : m ≤ 400) (hm2 : m % 2 = 0) (him : i * 2 ≤ m)
    (hlo : lo = if i = 0 then 0 else off os (i - 1)) (hhi : hi = if i * 2 < m then off os i else n) (h1 : lo ≤ hi) (h2 : hi ≤ n) :
    Calls Tryz.prog 85 #[.agg #[.slice a n c, .slice a' m d], .int .i64 (i : Int)] w fun e w' => e = .returned (.slice (cutA a c lo) (hi - lo) (c - lo)) ∧ Below w.heap.size w w' := by
  have hcut := cut27 a n c lo hi h1 (by omega)
  have hos := ho.len
  have hd := ho.le
  have hd2 := ho.top
  unfold maxLen at hd2
  by_cases hm0 : m = 0
  · obtain rfl : i = 0 := by omega
    rw [if_pos rfl] at hlo
    rw [if_neg (by omega)] at hhi
    subst hlo hhi
    subst hm0
    simp only [Int.natCast_zero] at hcut
    clear ho
    go_enter Tryz.func85, Tryz.ntmps85
    go_wp2_with fail
    go_ret
    exact ⟨rfl, by go_grown⟩
  · obtain ⟨b, o, rfl, hb⟩ := ho.at_ (by omega)
    have hbw : Bytes (w.alloc (.cells #[.slice a n c, .slice (some ⟨b, o, none⟩) m d] 68)) b o os := hb.below (B := w.heap.size) (by go_grown) (Nat.le_refl _)
    have K := fun j hj => readAt (d := d) hos hbw ho.byte j hj
    have hc : ∀ w', Below (w.alloc (.cells #[.slice a n c, .slice (some ⟨b, o, none⟩) m d] 68)).heap.size (w.alloc (.cells #[.slice a n c, .slice (some ⟨b, o, none⟩) m d] 68)) w' →
        w'.cell? ⟨w.heap.size, 0, none⟩ = some (.slice a n c) ∧ w'.cell? ⟨w.heap.size, 1, none⟩ = some (.slice (some ⟨b, o, none⟩) m d) ∧ Below w.heap.size w w' := fun w' hb' =>
      ⟨(hb'.cell (p := ⟨w.heap.size, 0, none⟩) (by simp)).trans (by simp), (hb'.cell (p := ⟨w.heap.size, 1, none⟩) (by simp)).trans (by simp), Below.trans (by go_grown) (hb'.mono (by simp))⟩
    have HC := Lib.hid hc
    clear ho hb hbw hc
    by_cases hi0 : i = 0
    · subst hi0
      rw [if_pos rfl] at hlo
      rw [if_pos (by omega)] at hhi
      have K0 := K 0 (by omega)
      simp only [Nat.zero_mul, Nat.add_zero, Nat.sub_zero] at K0
      rw [← hhi] at K0
      have K0 := Lib.hid K0
      subst hlo
      simp only [Int.natCast_zero] at hcut
      clear K hhi
      have hmp : (0 : Int) < (m : Int) := by omega
      go_enter Tryz.func85, Tryz.ntmps85
      go_wp2_with (go_at_call 114; refine (K0.out _ (Below.refl _ _)).mono ?_; rintro e w1 ⟨rfl, hb1⟩; obtain ⟨e0, e1, hbel⟩ := HC.out _ hb1)
      go_ret
      exact ⟨rfl, hbel⟩
    · rw [if_neg hi0] at hlo
      have K1 := K (i - 1) (by omega)
      rw [← hlo] at K1
      have K1 := Lib.hid K1
      have hip : (0 : Int) < (i : Int) := by omega
      by_cases him2 : i * 2 < m
      · rw [if_pos him2] at hhi
        have K2 := K i (by omega)
        rw [← hhi] at K2
        have K2 := Lib.hid K2
        clear K hhi hlo
        go_enter Tryz.func85, Tryz.ntmps85
        go_wp2_with (first
          | (go_at_call 114; (with_reducible refine (K1.out _ (Below.refl _ _)).mono ?_); rintro e w1 ⟨rfl, hb1⟩; obtain ⟨e0, e1, hbel⟩ := HC.out _ hb1)
          | (go_at_call 114; (with_reducible refine (K2.out _ hb1).mono ?_); rintro e w2 ⟨rfl, hb2⟩; obtain ⟨f0, f1, hbel2⟩ := HC.out _ (hb1.trans (hb2.mono hb1.size))))
        go_ret
        exact ⟨rfl, hbel2⟩
      · rw [if_neg him2] at hhi
        subst hhi
        clear K hlo
        go_enter Tryz.func85, Tryz.ntmps85
        go_wp2_with (go_at_call 114; (with_reducible refine (K1.out _ (Below.refl _ _)).mono ?_); rintro e w1 ⟨rfl, hb1⟩; obtain ⟨e0, e1, hbel⟩ := HC.out _ hb1)
        go_ret
        exact ⟨rfl, hbel⟩
end Go.Proofs.YtegohkgmamnkdaaGreat.Msg
/- A node's keys and values by their place, walked. Conditions: the offsets rise and stay in the buffer. -/
set_option linter.unusedVariables false
namespace Go.Proofs.YtegohkgmamnkdaaGreat.Msg
open Go.ChangeShapes Go.WideShapes Go.ChangeAt Go.RowKit
open Go.Proofs.YtegohkgmamnkdaaGreat.Dig Go.Proofs.YtegohkgmamnkdaaGreat.Mem Go.Proofs.YtegohkgmamnkdaaGreat.Rb

set_option maxRecDepth 100000 in
theorem nKey (w : World) (a a' : Option Addr) (n c q d i lo hi : Nat) (os : List Nat) (ho : RB w a' q d os) (hn : n ≤ 60000) (hnc : n ≤ c) (hm : q ≤ 400) (hm2 : q % 2 = 0) (him : i * 2 ≤ q) (hlo : lo = if i = 0 then 0 else off os (i - 1)) (hhi : hi = if i * 2 < q then off os i else n) (h1 : lo ≤ hi) (h2 : hi ≤ n) (hct : c ≤ 9223372036854775807) (x0 x1 x3 : Value) (m : Nat) (c0 : x0.oneCell' = true) (c1 : x1.oneCell' = true) (c3 : x3.oneCell' = true) :
    Calls Tryz.prog 41 #[.agg #[.slice a n c, .slice a' q d, x0, x1, .int .u16 (m : Int), x3], .int .i64 (i : Int)] w fun e w' => e = .returned (.slice (cutA a c lo) (hi - lo) (c - lo)) ∧ Below w.heap.size w w' := by
  have hq := ho.le
  have hqt := ho.top
  unfold maxLen at hqt
  obtain ⟨A, hA⟩ : ∃ A : Value, A = .agg #[.slice a n c, .slice a' q d, x0, x1, .int .u16 (m : Int), x3] := ⟨_, rfl⟩
  have K := Lib.hid (getSlice (w.alloc (.cells #[.slice a n c, .slice a' q d, x0, x1, .int .u16 (m : Int), x3] 71)) a a' n c q d i lo hi os (ho.below ((Below.refl w.heap.size w).alloc (Nat.le_refl _) _) (Nat.le_refl _)) hn hnc hm hm2 him hlo hhi h1 h2)
  clear ho hlo hhi h1 h2 hA him hm2
  go_enter Tryz.func41, Tryz.ntmps41
  go_wp2_with (go_at_call 85; (with_reducible refine K.out.mono ?_); rintro e w2 ⟨rfl, hb2⟩)
  go_ret
  exact ⟨rfl, ((Below.refl _ _).alloc (Nat.le_refl _) _).trans (hb2.mono (by simp))⟩

set_option maxRecDepth 100000 in
theorem nVal (w : World) (a a' : Option Addr) (n c q d i lo hi : Nat) (os : List Nat) (ho : RB w a' q d os) (hn : n ≤ 60000) (hnc : n ≤ c) (hm : q ≤ 400) (hm2 : q % 2 = 0) (him : i * 2 ≤ q) (hlo : lo = if i = 0 then 0 else off os (i - 1)) (hhi : hi = if i * 2 < q then off os i else n) (h1 : lo ≤ hi) (h2 : hi ≤ n) (hct : c ≤ 9223372036854775807) (x0 x1 x3 : Value) (m : Nat) (c0 : x0.oneCell' = true) (c1 : x1.oneCell' = true) (c3 : x3.oneCell' = true) :
    Calls Tryz.prog 86 #[.agg #[x0, x1, .slice a n c, .slice a' q d, .int .u16 (m : Int), x3], .int .i64 (i : Int)] w fun e w' => e = .returned (.slice (cutA a c lo) (hi - lo) (c - lo)) ∧ Below w.heap.size w w' := by
  have hq := ho.le
  have hqt := ho.top
  unfold maxLen at hqt
  obtain ⟨A, hA⟩ : ∃ A : Value, A = .agg #[x0, x1, .slice a n c, .slice a' q d, .int .u16 (m : Int), x3] := ⟨_, rfl⟩
  have K := Lib.hid (getSlice (w.alloc (.cells #[x0, x1, .slice a n c, .slice a' q d, .int .u16 (m : Int), x3] 71)) a a' n c q d i lo hi os (ho.below ((Below.refl w.heap.size w).alloc (Nat.le_refl _) _) (Nat.le_refl _)) hn hnc hm hm2 him hlo hhi h1 h2)
  clear ho hlo hhi h1 h2 hA him hm2
  go_enter Tryz.func86, Tryz.ntmps86
  go_wp2_with (go_at_call 85; (with_reducible refine K.out.mono ?_); rintro e w2 ⟨rfl, hb2⟩)
  go_ret
  exact ⟨rfl, ((Below.refl _ _).alloc (Nat.le_refl _) _).trans (hb2.mono (by simp))⟩

set_option maxRecDepth 100000 in
theorem dVal (w : World) (a a' : Option Addr) (n c q d i lo hi : Nat) (os : List Nat) (ho : RB w a' q d os) (hn : n ≤ 60000) (hnc : n ≤ c) (hm : q ≤ 400) (hm2 : q % 2 = 0) (him : i * 2 ≤ q) (hlo : lo = if i = 0 then 0 else off os (i - 1)) (hhi : hi = if i * 2 < q then off os i else n) (h1 : lo ≤ hi) (h2 : hi ≤ n) (hct : c ≤ 9223372036854775807) (x0 x1 x3 : Value) (m : Nat) (c0 : x0.oneCell' = true) (c1 : x1.oneCell' = true) (c3 : x3.oneCell' = true) :
    Calls Tryz.prog 42 #[.agg #[x0, x1, .slice a n c, .slice a' q d, .int .u16 (m : Int), x3], .int .i64 (i : Int)] w fun e w' => e = .returned (.slice (cutA a c lo) (hi - lo) (c - lo)) ∧ Below w.heap.size w w' := by
  have hq := ho.le
  have hqt := ho.top
  unfold maxLen at hqt
  obtain ⟨A, hA⟩ : ∃ A : Value, A = .agg #[x0, x1, .slice a n c, .slice a' q d, .int .u16 (m : Int), x3] := ⟨_, rfl⟩
  have K := Lib.hid (nVal (w.alloc (.cells #[x0, x1, .slice a n c, .slice a' q d, .int .u16 (m : Int), x3] 71)) a a' n c q d i lo hi os (ho.below ((Below.refl w.heap.size w).alloc (Nat.le_refl _) _) (Nat.le_refl _)) hn hnc hm hm2 him hlo hhi h1 h2 hct x0 x1 x3 m c0 c1 c3)
  clear ho hlo hhi h1 h2 hA him hm2
  go_enter Tryz.func42, Tryz.ntmps42
  go_wp2_with (go_at_call 86; (with_reducible refine K.out.mono ?_); rintro e w2 ⟨rfl, hb2⟩)
  go_ret
  exact ⟨rfl, ((Below.refl _ _).alloc (Nat.le_refl _) _).trans (hb2.mono (by simp))⟩
end Go.Proofs.YtegohkgmamnkdaaGreat.Msg
/- Offsets of addresses, made; walked. Condition: at most 200 addresses. -/
set_option linter.unusedVariables false
namespace Go.Proofs.YtegohkgmamnkdaaGreat.Msg
open Go.ChangeShapes Go.WideShapes Go.ChangeAt Go.RowKit
open Go.Proofs.YtegohkgmamnkdaaGreat.Dig Go.Proofs.YtegohkgmamnkdaaGreat.Mem Go.Proofs.YtegohkgmamnkdaaGreat.Rb

set_option maxRecDepth 100000 in
theorem putU16 (w : World) (g M o n c v : Nat) (cur : List Nat) (hr : Blk w g M cur) (ho : o + 2 ≤ cur.length) (hn : 2 ≤ n) (hv : v < 65536) :
    Calls Tryz.prog 170 #[.agg #[], .slice (some ⟨g, o, none⟩) n c, .int .u16 (v : Int)] w fun e w' => e = .returned (.tuple #[]) ∧ Blk w' g M (put cur o (le 2 v)) ∧ Wr [g] w w' := by
  have hlt := hr.lt
  have hb : Blk (w.alloc (.cells #[] 146)) g M cur := by
    obtain ⟨rest, h1, h2⟩ := hr
    exact ⟨rest, h1, (Below.heap_alloc _ _ _ hlt).trans h2⟩
  have c0 := hb.cell (i := o) (by omega)
  have f0 := hb.frozen (i := o)
  have h0 : 0 < n := by omega
  have c1 := hb.cell (i := o + 1) (by omega)
  have f1 := hb.frozen (i := o + 1)
  have h1 : 1 < n := by omega
  have HB := Lib.hid hb
  have HO := Lib.hid ho
  clear hr ho hn hlt hb
  go_enter Tryz.func170, Tryz.ntmps170
  go_wp2
  go_end0
  refine ⟨rfl, ?_, ?_⟩
  · have e0 : (v : Int) % 256 = ((v % 256 : Nat) : Int) := by omega
    have e1 : (v : Int) / 256 = ((v / 256 % 256 : Nat) : Int) := by omega
    rw [le_put2 _ _ _ HO.out, e1, e0]
    exact ((HB.out.set (i := o) (v % 256) (by have := HO.out; simp; omega)).set (i := o + 1) (v / 256 % 256) (by have := HO.out; simp; omega))
  · exact (Wr.of_below ((Below.refl _ _).alloc (Nat.le_refl _) _)).trans ((Wr.setCell _ _ (by simp)).trans (Wr.setCell _ _ (by simp)))

/-- Where each of k addresses ends. -/
def adr : Nat → List Nat
  | 0 => []
  | k + 1 => adr k ++ le 2 ((k + 1) * 20)
theorem adr_length : ∀ k, (adr k).length = 2 * k
  | 0 => rfl
  | k + 1 => by rw [adr, List.length_append, adr_length k, le_length]; omega
theorem adr_next (k m : Nat) (h : k < m) : put (adr k ++ List.replicate (2 * m - 2 * k) 0) (2 * k) (le 2 ((k + 1) * 20)) = adr (k + 1) ++ List.replicate (2 * m - 2 * (k + 1)) 0 := by
  have e : List.replicate (2 * m - 2 * k) 0 = List.replicate 2 0 ++ List.replicate (2 * m - 2 * (k + 1)) 0 := by
    rw [List.replicate_append_replicate]; congr 1; omega
  rw [e, put_at _ _ _ _ _ (adr_length k) (by rw [le_length]; rfl), adr, List.append_assoc]

set_option maxRecDepth 100000 in
set_option maxHeartbeats 1000000 in
theorem addrOffs (w : World) (a : Option Addr) (N c m : Nat) (hN : N = 20 * m) (hm : m ≤ 200) (hm0 : 0 < m) (hc : N ≤ c) (hct : c ≤ 9223372036854775807) :
    Calls Tryz.prog 139 #[.slice a N c] w fun e w' => ∃ g S, e = .returned (.slice (some ⟨g, 0, none⟩) S S) ∧ S = 2 * m ∧ Blk w' g S (adr m) ∧ w.heap.size ≤ g ∧ Below w.heap.size w w' := by
  obtain ⟨i5, hi, hz0, hz1, hz2⟩ := info_parts info5
  obtain ⟨S, hS⟩ : ∃ S, S = 2 * m := ⟨_, rfl⟩
  have e1 : (N : Int).tdiv 20 = (m : Int) := by rw [Int.tdiv_eq_ediv_of_nonneg (by omega)]; omega
  have e2 : (m : Int) * 2 = (S : Int) := by omega
  have bS : S ≤ 400 := by omega
  have HS := Lib.hid hS
  clear hN hS
  go_enter Tryz.func139, Tryz.ntmps139
  go_wp2_with (at_make; refine wpList_make_row _ rfl _ _ 26 rfl 5 i5 (.int .u8 0) Tryz.underlying26 hi hz0 hz1 rfl .i64 .i64 S rfl rfl (by rw [hz2]; omega) (by omega) ?_; rw [made_bs])
  go_loopw [4] (fun iv wr => ∃ k : Nat, k ≤ m ∧ iv = .int .i64 (k : Int) ∧ Blk wr w.heap.size S (adr k ++ List.replicate (2 * m - 2 * k) 0) ∧ Below w.heap.size w wr) (fun iv _ => m - (intOf iv).toNat)
  case atStart =>
    exact ⟨0, by omega, rfl, by rw [HS.out]; exact ⟨[], by simp [adr], by rw [heap_alloc_new]; simp [adr]⟩, (Below.refl _ _).alloc (Nat.le_refl _) _⟩
  case round =>
    obtain ⟨k, hk, rfl, hb, hbel⟩ := hrel
    by_cases hlt : k < m
    · have q : (k : Int) < (m : Int) := by omega
      obtain ⟨K2, hK2⟩ : ∃ K2, K2 = 2 * k := ⟨_, rfl⟩
      obtain ⟨V, hV⟩ : ∃ V, V = (k + 1) * 20 := ⟨_, rfl⟩
      have E1 : (k : Int) * 2 = (K2 : Int) := by omega
      have E2 : ((k : Int) + 1) * 20 = (V : Int) := by omega
      have bV : V ≤ 4000 := by omega
      have C1 := cutLo (k := .i64) w.heap.size S S K2 (by have := HS.out; omega) (Nat.le_refl _) (by have := HS.out; omega)
      have hp := adr_next k m hlt
      rw [← hK2, ← hV] at hp
      have KP := Lib.hid fun n => putU16 (wr.drewN n) w.heap.size S K2 (S - K2) (S - K2) V (adr k ++ List.replicate (2 * m - 2 * k) 0) hb (by rw [List.length_append, adr_length, List.length_replicate]; omega) (by have := HS.out; omega) (by omega)
      rw [← hK2] at KP
      rw [hK2] at KP
      rw [← hK2, hp] at KP
      have HB := Lib.hid hbel
      have bk : k ≤ 200 := by omega
      clear hK2 hV hp hb hbel
      go_wp2_with fail
      refine region_quiet_tail 9 (C := fun w' => ∃ m, w' = wr.drewN m) (by kernel_rfl) (by kernel_rfl) ⟨1, rfl⟩ ?_
      simp only [List.take_succ_cons, List.take_zero, List.drop_succ_cons, List.drop_zero]
      iterate 9 go_big_quiet_step (fail)
      refine wpQuiet_nil ?_
      rintro _ ⟨m9, rfl⟩
      go_wp2_with (go_at_call 170; (with_reducible refine (KP.out _).mono ?_); rintro e w9 ⟨rfl, hb9, hw9⟩; have HB9 := Lib.hid hb9; have HW9 := Lib.hid hw9; clear hb9 hw9)
      exact ⟨⟨k + 1, by omega, by simp, HB9.out, HB.out.trans ((((Wr.refl [w.heap.size] wr).drewN m9).trans HW9.out).below (by simp) HB.out.size)⟩, by simp [intOf]; omega⟩
    · obtain rfl : k = m := by omega
      have HB := Lib.hid hb
      have HL := Lib.hid hbel
      clear hb hbel
      go_wp2_with fail
      go_ret
      refine ⟨w.heap.size, S, rfl, HS.out, ?_, Nat.le_refl _, HL.out⟩
      have := HB.out
      rwa [Nat.sub_self, List.replicate_zero, List.append_nil] at this
end Go.Proofs.YtegohkgmamnkdaaGreat.Msg
/- Fields cut out of bytes laid one behind another by where they begin, plain. No condition. -/
set_option linter.unusedVariables false
namespace Go.Proofs.YtegohkgmamnkdaaGreat.Msg
open Go.ChangeShapes Go.WideShapes Go.ChangeAt Go.RowKit
open Go.Proofs.YtegohkgmamnkdaaGreat.Dig Go.Proofs.YtegohkgmamnkdaaGreat.Mem Go.Proofs.YtegohkgmamnkdaaGreat.Rb

theorem off_cons (v : Nat) (r : List Nat) (h : v < 65536) : off (le 2 v ++ r) 0 = v := by
  simp [off, le]
  omega
theorem off_succ (v : Nat) (r : List Nat) (j : Nat) : off (le 2 v ++ r) (j + 1) = off r j := by
  unfold off
  rw [show (j + 1) * 2 = j * 2 + 1 + 1 by omega, show j * 2 + 1 + 1 + 1 = (j * 2 + 1) + 1 + 1 by omega]
  simp [le]
theorem off_ofb (fs : List Fld) (h : total fs < 65536) : ∀ (c i j : Nat), j < c → off (ofb fs i c) j = total (fs.take (i + j))
  | 0, _, _, h => by omega
  | c + 1, i, 0, _ => by
    rw [ofb, off_cons _ _ (Nat.lt_of_le_of_lt (total_take_le fs i) h)]
    rfl
  | c + 1, i, j + 1, hj => by
    rw [ofb, off_succ, off_ofb fs h c (i + 1) j (by omega)]
    congr 2
    omega
theorem adr_get : ∀ (m k : Nat), k < 2 * m → ∀ m', m ≤ m' → (adr m').getD k 0 = (adr m).getD k 0 := fun m k hk m' hm => by
  induction hm with
  | refl => rfl
  | step hm ih =>
    rename_i m'
    have hm' : m ≤ m' := hm
    have := adr_length m'
    rw [adr, List.getD_eq_getElem?_getD, List.getElem?_append_left (by omega), ← List.getD_eq_getElem?_getD]
    exact ih
theorem off_adr (m j : Nat) (h : j < m) (hm : m ≤ 200) : off (adr m) j = 20 * (j + 1) := by
  unfold off
  rw [adr_get (j + 1) (j * 2) (by omega) m h, adr_get (j + 1) (j * 2 + 1) (by omega) m h, adr]
  have hl := adr_length j
  simp only [List.getD_eq_getElem?_getD]
  rw [List.getElem?_append_right (by omega), List.getElem?_append_right (by omega), hl, show j * 2 - 2 * j = 0 by omega, show j * 2 + 1 - 2 * j = 1 by omega]
  simp [le]
  omega
/-- A field lies where those ahead of it end. -/
theorem cat_at {w : World} : ∀ {fs : List Fld} {i : Nat}, (∀ f ∈ fs, FldOk w f) → i < fs.length → ((cat fs).drop (total (fs.take i))).take ((fs.getD i nof).n) = (fs.getD i nof).xs
  | [], _, _, h => by simp at h
  | f :: fs, 0, hok, _ => by
    have hl := (hok f (List.mem_cons_self ..)).1.len
    simp only [List.take_zero, total, List.drop_zero, cat, List.getD_cons_zero]
    rw [List.take_append_of_le_length (by omega), List.take_of_length_le (by omega)]
  | f :: fs, i + 1, hok, h => by
    have hl := (hok f (List.mem_cons_self ..)).1.len
    have := cat_at (fs := fs) (i := i) (fun x hx => hok x (List.mem_cons_of_mem _ hx)) (by simpa using h)
    simp only [List.take_succ_cons, total, cat, List.getD_cons_succ]
    rw [List.drop_append, List.drop_of_length_le (by omega), List.nil_append, hl, Nat.add_sub_cancel_left]
    exact this
theorem total_succ {fs : List Fld} {i : Nat} (h : i < fs.length) : total (fs.take (i + 1)) = total (fs.take i) + (fs.getD i nof).n := by
  have e : fs.take (i + 1) = fs.take i ++ [fs.getD i nof] := by
    rw [List.take_succ_eq_append_getElem h, List.getD_eq_getElem?_getD, List.getElem?_eq_getElem h]; rfl
  rw [e, total_append]
  simp [total]
theorem total_all {fs : List Fld} {m : Nat} (h : fs.length = m) : total (fs.take m) = total fs := by rw [List.take_of_length_le (by omega)]
/-- Where field i begins and ends, as its offsets tell. -/
theorem ofb_ends {fs : List Fld} {m i : Nat} (hl : fs.length = m) (h : total fs < 65536) (hi : i < m) :
    total (fs.take i) = (if i = 0 then 0 else off (ofb fs 1 (m - 1)) (i - 1)) ∧ total (fs.take (i + 1)) = (if i * 2 < 2 * (m - 1) then off (ofb fs 1 (m - 1)) i else total fs) := by
  refine ⟨?_, ?_⟩
  · split
    · rename_i h0; subst h0; rfl
    · rw [off_ofb fs h (m - 1) 1 (i - 1) (by omega), show 1 + (i - 1) = i by omega]
  · split
    · rw [off_ofb fs h (m - 1) 1 i (by omega), Nat.add_comm]
    · rw [show i + 1 = m by omega, total_all hl]
theorem total_20 {gs : List Fld} (h : ∀ g ∈ gs, g.n = 20) : total gs = 20 * gs.length := by
  induction gs with
  | nil => rfl
  | cons g gs ih =>
    rw [total, h g (List.mem_cons_self ..), ih fun x hx => h x (List.mem_cons_of_mem _ hx), List.length_cons]; omega
theorem adr_ends {gs : List Fld} {m i : Nat} (hl : gs.length = m) (h : ∀ g ∈ gs, g.n = 20) (hi : i < m) (hm : m ≤ 200) :
    total (gs.take i) = (if i = 0 then 0 else off (adr m) (i - 1)) ∧ total (gs.take (i + 1)) = (if i * 2 < 2 * m then off (adr m) i else total gs) := by
  have ht : ∀ k, k ≤ m → total (gs.take k) = 20 * k := fun k hk => by
    rw [total_20 fun x hx => h x (List.mem_of_mem_take hx), List.length_take, hl, Nat.min_eq_left hk]
  refine ⟨?_, ?_⟩
  · split
    · rename_i h0; subst h0; rfl
    · rw [off_adr m (i - 1) (by omega) hm, ht i (by omega)]; omega
  · rw [if_pos (by omega), off_adr m i hi hm, ht (i + 1) (by omega)]
end Go.Proofs.YtegohkgmamnkdaaGreat.Msg
