/- What the message of a node of names tells, as a plain list. No condition but on sizes. -/
import Derived.Test.YtegohkgmamnkdaaGreatEsA
import Derived.Test.YtegohkgmamnkdaaGreatTold
set_option linter.unusedVariables false
namespace Go.Proofs.YtegohkgmamnkdaaGreat.Msg
open Go.ChangeShapes Go.WideShapes Go.ChangeAt Go.RowKit
open Go.Proofs.YtegohkgmamnkdaaGreat.Dig Go.Proofs.YtegohkgmamnkdaaGreat.Mem Go.Proofs.YtegohkgmamnkdaaGreat.Rb
open Go.Proofs.YtegohkgmamnkdaaGreat.Cnt (encs enc Nums64)

structure AdrTold (T : List Nat) (fs gs : List Fld) (ls : List Nat) (m cnt lv t : Nat) : Prop where
  top : T.length ≤ 100000
  mg : ∃ vs xs, Mg T fidAdr vs xs t
  keys : Vec T 0 (cat fs).length (cat fs)
  koff : Vec T 1 (m - 1) (ofb fs 1 (m - 1))
  vals : Vec T 2 (cat gs).length (cat gs)
  sub : 0 < lv → Vec T 3 (encs 0 ls).length (encs 0 ls)
  cnt : Num T 8 4 cnt
  lvl : Num T 1 5 lv

theorem adrToldL (fs gs : List Fld) (m cnt ma : Nat) (x : List Nat) (ls : List Nat) (hx : valsX fs gs m <:+ x) (hxl : x.length ≤ 60000) (hc : cnt < 18446744073709551616) (hma : ma = 4 ∨ ma = 8) (hm : m ≤ 200) : AdrTold (msgOA ma 5 x (adrO fs gs m x cnt 0)) fs gs ls m cnt 0 5 := by
  obtain ⟨p1, hp1⟩ : ∃ p1, p1 = putU 0 (vec (cat fs) []).length (zr 6, x) := ⟨_, rfl⟩
  obtain ⟨p2, hp2⟩ : ∃ p2, p2 = putU 1 (keysX fs m).length p1 := ⟨_, rfl⟩
  obtain ⟨p3, hp3⟩ : ∃ p3, p3 = putU 2 (valsX fs gs m).length p2 := ⟨_, rfl⟩
  obtain ⟨p5, hp5⟩ : ∃ p5, p5 = putN 8 4 cnt p3 := ⟨_, rfl⟩
  obtain ⟨p8, hp8⟩ : ∃ p8, p8 = putN 1 5 0 p5 := ⟨_, rfl⟩
  have e0 : adrO fs gs m x cnt 0 = p8 := by rw [hp8, hp5, hp3, hp2, hp1]; rfl
  rw [e0]
  have U0 : Und 6 p8 x.length (x.length + 39) := by
    rw [hp8, hp5, hp3, hp2, hp1]
    exact und_N (und_N (und_U (und_U (und_U (und_start 6 x) _ _) _ _) _ _) (by omega) _ _) (by omega) _ _
  have U : Und 6 p8 x.length (x.length + 50) := ⟨U0.len, U0.le, by have := U0.top; omega, U0.low, U0.lo⟩
  have l1 : p1.1.length = 6 := by rw [hp1, putU_len]; rfl
  have l2 : p2.1.length = 6 := by rw [hp2, putU_len]; exact l1
  have l3 : p3.1.length = 6 := by rw [hp3, putU_len]; exact l2
  have l5 : p5.1.length = 6 := by rw [hp5, putN_len]; exact l3
  have s0 : x <:+ p1.2 := by rw [hp1]; exact suf_putU 0 _ (zr 6, x)
  have s1 : p1.2 <:+ p2.2 := by rw [hp2]; exact suf_putU _ _ _
  have s2 : p2.2 <:+ p3.2 := by rw [hp3]; exact suf_putU _ _ _
  have s4 : p3.2 <:+ p5.2 := by rw [hp5]; exact suf_putN _ _ _ _
  have s7 : p5.2 <:+ p8.2 := by rw [hp8]; exact suf_putN _ _ _ _
  have t4 : p3.2 <:+ p8.2 := s4.trans s7
  have t3 : p3.2 <:+ p8.2 := t4
  have t2 : p2.2 <:+ p8.2 := s2.trans t3
  have t1 : p1.2 <:+ p8.2 := s1.trans t2
  have kx : keysX fs m <:+ x := (suf_vec (cat gs) (keysX fs m)).trans hx
  have fx : vec (cat fs) [] <:+ x := (suf_offv fs m _).trans kx
  have h4 := padOf_lt 4 p8.2.length (by omega)
  have hUt := U.top
  have M : Mg (msgOA ma 5 x p8) fidAdr p8.1 p8.2 5 := mg (oe := x.length) (ma := ma) (fid := fidAdr) (fun v hv => by
    unfold fo
    split
    · omega
    · rcases U.lo v hv with h5 | h5 <;> omega) rfl (by omega) (by omega) hma
  have hpm : padOf ma ((endO p8.1 p8.2 x.length 5).length + 8) < 8 := by rcases hma with rfl | rfl <;> have := padOf_lt 4 ((endO p8.1 p8.2 x.length 5).length + 8) (by omega) <;> have := padOf_lt 8 ((endO p8.1 p8.2 x.length 5).length + 8) (by omega) <;> omega
  have hTl : (msgOA ma 5 x p8).length ≤ 100000 := by
    have h6 := endO_length p8.1 p8.2 x.length 5
    unfold msgOA
    rw [finO_length]
    have : fidAdr.length = 4 := rfl
    omega
  have g9 : ∀ k, k ≠ 5 → p8.1.getD k 0 = p5.1.getD k 0 := fun k h1 => by rw [hp8, putN_ne h1]
  have g4 : ∀ k, k ≠ 5 → k ≠ 4 → p8.1.getD k 0 = p3.1.getD k 0 := fun k h1 h2 => by rw [g9 k h1, hp5, putN_ne h2]
  have z0 : (zr 6, x).1.length = 6 := rfl
  have hl := fx.length_le
  refine ⟨hTl, ⟨_, _, M⟩, ?_, ?_, ?_, fun h0 => ?_, ?_, ?_⟩
  · refine M.vec (by omega) (prev := x) (w := vec (cat fs) []) (rest := zr (padOf 4 (([] : List Nat).length + (cat fs).length)) ++ []) ?_ ?_ fx rfl ?_ (by omega)
    · have := t1; rw [hp1] at this; exact this
    · rw [g4 0 (by omega) (by omega), hp3, putU_ne (by omega), hp2, putU_ne (by omega), hp1, putU_at (by rw [z0]; omega)]
    · have := vec_length (cat fs) []; omega
  · refine M.vec (by omega) (prev := p1.2) (w := keysX fs m) (rest := zr (padOf 4 ((vec (cat fs) []).length + 2 * (m - 1))) ++ vec (cat fs) []) ?_ ?_ (kx.trans s0) rfl (by omega) (by omega)
    · have := t2; rw [hp2] at this; exact this
    · rw [g4 1 (by omega) (by omega), hp3, putU_ne (by omega), hp2, putU_at (by omega)]
  · refine M.vec (by omega) (prev := p2.2) (w := valsX fs gs m) (rest := zr (padOf 4 ((keysX fs m).length + (cat gs).length)) ++ keysX fs m) ?_ ?_ (hx.trans (s0.trans s1)) rfl ?_ (by omega)
    · have := t3; rw [hp3] at this; exact this
    · rw [g4 2 (by omega) (by omega), hp3, putU_at (by omega)]
    · have := vec_length (cat gs) (keysX fs m); have := hx.length_le; unfold valsX at this; omega
  · omega
  · refine num_of (p := p3) M (fun _ => by omega) (by rw [← hp5]; exact s7) (by rw [g9 4 (by omega), hp5]) (by omega) ?_ (by omega) hc
    rw [hp3, putU_ne (by omega), hp2, putU_ne (by omega), hp1, putU_ne (by omega)]
    exact zr_getD 6 4
  · refine num_of (p := p5) M (fun h0 => by omega) (by rw [← hp8]; exact List.suffix_refl _) (by rw [hp8]) (by omega) ?_ (by omega) (by omega)
    rw [hp5, putN_ne (by omega), hp3, putU_ne (by omega), hp2, putU_ne (by omega), hp1, putU_ne (by omega)]
    exact zr_getD 6 5

theorem adrToldI (fs gs : List Fld) (m cnt lv ma : Nat) (x : List Nat) (ls jr : List Nat) (hx : valsX fs gs m <:+ x) (hxl : x.length ≤ 60000) (hj : x = le 4 (encs 0 ls).length ++ (encs 0 ls ++ jr)) (hjc : (encs 0 ls).length ≤ 100000) (hlv : lv < 256) (hc : cnt < 18446744073709551616) (hma : ma = 4 ∨ ma = 8) (hm : m ≤ 200) : AdrTold (msgOA ma 6 x (adrI fs gs m x cnt lv)) fs gs ls m cnt lv 6 := by
  obtain ⟨p1, hp1⟩ : ∃ p1, p1 = putU 0 (vec (cat fs) []).length (zr 6, x) := ⟨_, rfl⟩
  obtain ⟨p2, hp2⟩ : ∃ p2, p2 = putU 1 (keysX fs m).length p1 := ⟨_, rfl⟩
  obtain ⟨p3, hp3⟩ : ∃ p3, p3 = putU 2 (valsX fs gs m).length p2 := ⟨_, rfl⟩
  obtain ⟨p4, hp4⟩ : ∃ p4, p4 = putU 3 x.length p3 := ⟨_, rfl⟩
  obtain ⟨p5, hp5⟩ : ∃ p5, p5 = putN 8 4 cnt p4 := ⟨_, rfl⟩
  obtain ⟨p8, hp8⟩ : ∃ p8, p8 = putN 1 5 lv p5 := ⟨_, rfl⟩
  have e0 : adrI fs gs m x cnt lv = p8 := by rw [hp8, hp5, hp4, hp3, hp2, hp1]; rfl
  rw [e0]
  have U0 : Und 6 p8 x.length (x.length + 46) := by
    rw [hp8, hp5, hp4, hp3, hp2, hp1]
    exact und_N (und_N (und_U (und_U (und_U (und_U (und_start 6 x) _ _) _ _) _ _) _ _) (by omega) _ _) (by omega) _ _
  have U : Und 6 p8 x.length (x.length + 50) := ⟨U0.len, U0.le, by have := U0.top; omega, U0.low, U0.lo⟩
  have l1 : p1.1.length = 6 := by rw [hp1, putU_len]; rfl
  have l2 : p2.1.length = 6 := by rw [hp2, putU_len]; exact l1
  have l3 : p3.1.length = 6 := by rw [hp3, putU_len]; exact l2
  have l4 : p4.1.length = 6 := by rw [hp4, putU_len]; exact l3
  have l5 : p5.1.length = 6 := by rw [hp5, putN_len]; exact l4
  have s0 : x <:+ p1.2 := by rw [hp1]; exact suf_putU 0 _ (zr 6, x)
  have s1 : p1.2 <:+ p2.2 := by rw [hp2]; exact suf_putU _ _ _
  have s2 : p2.2 <:+ p3.2 := by rw [hp3]; exact suf_putU _ _ _
  have s3 : p3.2 <:+ p4.2 := by rw [hp4]; exact suf_putU _ _ _
  have s4 : p4.2 <:+ p5.2 := by rw [hp5]; exact suf_putN _ _ _ _
  have s7 : p5.2 <:+ p8.2 := by rw [hp8]; exact suf_putN _ _ _ _
  have t4 : p4.2 <:+ p8.2 := s4.trans s7
  have t3 : p3.2 <:+ p8.2 := s3.trans t4
  have t2 : p2.2 <:+ p8.2 := s2.trans t3
  have t1 : p1.2 <:+ p8.2 := s1.trans t2
  have kx : keysX fs m <:+ x := (suf_vec (cat gs) (keysX fs m)).trans hx
  have fx : vec (cat fs) [] <:+ x := (suf_offv fs m _).trans kx
  have h4 := padOf_lt 4 p8.2.length (by omega)
  have hUt := U.top
  have M : Mg (msgOA ma 6 x p8) fidAdr p8.1 p8.2 6 := mg (oe := x.length) (ma := ma) (fid := fidAdr) (fun v hv => by
    unfold fo
    split
    · omega
    · rcases U.lo v hv with h5 | h5 <;> omega) rfl (by omega) (by omega) hma
  have hpm : padOf ma ((endO p8.1 p8.2 x.length 6).length + 8) < 8 := by rcases hma with rfl | rfl <;> have := padOf_lt 4 ((endO p8.1 p8.2 x.length 6).length + 8) (by omega) <;> have := padOf_lt 8 ((endO p8.1 p8.2 x.length 6).length + 8) (by omega) <;> omega
  have hTl : (msgOA ma 6 x p8).length ≤ 100000 := by
    have h6 := endO_length p8.1 p8.2 x.length 6
    unfold msgOA
    rw [finO_length]
    have : fidAdr.length = 4 := rfl
    omega
  have g9 : ∀ k, k ≠ 5 → p8.1.getD k 0 = p5.1.getD k 0 := fun k h1 => by rw [hp8, putN_ne h1]
  have g4 : ∀ k, k ≠ 5 → k ≠ 4 → p8.1.getD k 0 = p4.1.getD k 0 := fun k h1 h2 => by rw [g9 k h1, hp5, putN_ne h2]
  have z0 : (zr 6, x).1.length = 6 := rfl
  have hl := fx.length_le
  refine ⟨hTl, ⟨_, _, M⟩, ?_, ?_, ?_, fun h0 => ?_, ?_, ?_⟩
  · refine M.vec (by omega) (prev := x) (w := vec (cat fs) []) (rest := zr (padOf 4 (([] : List Nat).length + (cat fs).length)) ++ []) ?_ ?_ fx rfl ?_ (by omega)
    · have := t1; rw [hp1] at this; exact this
    · rw [g4 0 (by omega) (by omega), hp4, putU_ne (by omega), hp3, putU_ne (by omega), hp2, putU_ne (by omega), hp1, putU_at (by rw [z0]; omega)]
    · have := vec_length (cat fs) []; omega
  · refine M.vec (by omega) (prev := p1.2) (w := keysX fs m) (rest := zr (padOf 4 ((vec (cat fs) []).length + 2 * (m - 1))) ++ vec (cat fs) []) ?_ ?_ (kx.trans s0) rfl (by omega) (by omega)
    · have := t2; rw [hp2] at this; exact this
    · rw [g4 1 (by omega) (by omega), hp4, putU_ne (by omega), hp3, putU_ne (by omega), hp2, putU_at (by omega)]
  · refine M.vec (by omega) (prev := p2.2) (w := valsX fs gs m) (rest := zr (padOf 4 ((keysX fs m).length + (cat gs).length)) ++ keysX fs m) ?_ ?_ (hx.trans (s0.trans s1)) rfl ?_ (by omega)
    · have := t3; rw [hp3] at this; exact this
    · rw [g4 2 (by omega) (by omega), hp4, putU_ne (by omega), hp3, putU_at (by omega)]
    · have := vec_length (cat gs) (keysX fs m); have := hx.length_le; unfold valsX at this; omega
  · refine M.vec (by omega) (prev := p3.2) (w := x) (rest := jr) ?_ ?_ (s0.trans (s1.trans s2)) hj (by omega) (by omega)
    · have := t4; rw [hp4] at this; exact this
    · rw [g4 3 (by omega) (by omega), hp4, putU_at (by omega)]
  · refine num_of (p := p4) M (fun _ => by omega) (by rw [← hp5]; exact s7) (by rw [g9 4 (by omega), hp5]) (by omega) ?_ (by omega) hc
    rw [hp4, putU_ne (by omega), hp3, putU_ne (by omega), hp2, putU_ne (by omega), hp1, putU_ne (by omega)]
    exact zr_getD 6 4
  · refine num_of (p := p5) M (fun h0 => by omega) (by rw [← hp8]; exact List.suffix_refl _) (by rw [hp8]) (by omega) ?_ (by omega) (by omega)
    rw [hp5, putN_ne (by omega), hp4, putU_ne (by omega), hp3, putU_ne (by omega), hp2, putU_ne (by omega), hp1, putU_ne (by omega)]
    exact zr_getD 6 5

/-- The message told. -/
theorem msgToldA {w : World} {a b d : Option Addr} {m c c' k ck : Nat} {fs gs : List Fld} {ls : List Nat} {lv : Nat} (h : NodeM w a b d m c c' k ck fs gs ls lv) :
    (lv = 0 → AdrTold (msgAdr fs gs ls m lv) fs gs ls m m lv 5) ∧ (0 < lv → AdrTold (msgAdr fs gs ls m lv) fs gs ls m (sumU ls) lv 6) := by
  have hm := h.hm
  have hkb := h.kb
  have hvb := h.vb
  have x2 := valsX_le (m := m) h.keys.ok h.vals.ok
  refine ⟨fun h0 => ?_, fun h0 => ?_⟩
  · subst h0
    unfold msgAdr
    rw [if_pos rfl]
    exact adrToldL fs gs m m 8 _ ls (List.suffix_refl _) (by omega) (by omega) (Or.inr rfl) hm
  · have x3 := innX_le (ls := ls) (m := m) h.keys.ok h.vals.ok
    have hE := Cnt.encs_length 0 ls
    have hk := h.hk
    have hk1 := h.lv1 h0
    have hlv := h.lv2
    have hsu : sumU ls ≤ 2199023255552 * 200 := Nat.le_trans (sumU_le h.lb) (by rw [hk]; exact Nat.mul_le_mul_left _ (by omega))
    unfold msgAdr
    rw [if_neg (by omega)]
    exact adrToldI fs gs m (sumU ls) lv (if sumU ls = 0 then 4 else 8) (innX fs gs ls m) ls _ (suf_vec (encs 0 ls) _) (by omega) rfl (by omega) (by omega) (by omega) (by split <;> simp) hm
end Go.Proofs.YtegohkgmamnkdaaGreat.Msg
