/- What the message of a map's node tells, as a plain list. No condition but on sizes. -/
import Derived.Test.YtegohkgmamnkdaaGreatRead
set_option linter.unusedVariables false
namespace Go.Proofs.YtegohkgmamnkdaaGreat.Msg
open Go.ChangeShapes Go.WideShapes Go.ChangeAt Go.RowKit
open Go.Proofs.YtegohkgmamnkdaaGreat.Dig Go.Proofs.YtegohkgmamnkdaaGreat.Mem Go.Proofs.YtegohkgmamnkdaaGreat.Rb
open Go.Proofs.YtegohkgmamnkdaaGreat.Cnt (encs enc Nums64)

theorem suf_vec (ys xs : List Nat) : xs <:+ vec ys xs := by unfold vec; rw [← List.append_assoc, ← List.append_assoc]; exact suf_app _ _
theorem suf_offv (fs : List Fld) (m : Nat) (xs : List Nat) : xs <:+ offv fs m xs := by unfold offv; rw [← List.append_assoc, ← List.append_assoc]; exact suf_app _ _
theorem suf_ysU (off : Nat) (xs : List Nat) : xs <:+ ysU off xs := by unfold ysU; rw [← List.append_assoc]; exact suf_app _ _
theorem suf_ysN (k v : Nat) (xs : List Nat) : xs <:+ ysN k v xs := by unfold ysN; rw [← List.append_assoc]; exact suf_app _ _
theorem suf_putU (i off : Nat) (p : List Nat × List Nat) : p.2 <:+ (putU i off p).2 := suf_ysU off p.2
theorem suf_putN (k i v : Nat) (p : List Nat × List Nat) : p.2 <:+ (putN k i v p).2 := by
  unfold putN
  split
  · exact List.suffix_refl _
  · exact suf_ysN k v p.2
/-- What a field's vector tells. -/
structure Vec (T : List Nat) (i c : Nat) (ys : List Nat) : Prop where
  ne : fld T i ≠ 0
  len : vlen T i = c
  fit : ind T i + 4 + ys.length ≤ T.length
  ys : (T.drop (ind T i + 4)).take ys.length = ys
  at_ : fld T i + pos T + 4 ≤ T.length
/-- What a field's number is. -/
structure Num (T : List Nat) (k i v : Nat) : Prop where
  num : num T k i = v
  at_ : fld T i ≠ 0 → fld T i + pos T + k ≤ T.length
theorem Mg.vec {T fid vs xs : List Nat} {t : Nat} (h : Mg T fid vs xs t) {i : Nat} (hi : i < t) {prev w ys rest : List Nat} {c : Nat} (hz : ysU w.length prev <:+ xs) (hv : vs.getD i 0 = (ysU w.length prev).length) (hw : w <:+ prev) (hvec : w = le 4 c ++ (ys ++ rest)) (hc : c < 4294967296) (hT : T.length < 4294967296) : Vec T i c ys := by
  obtain ⟨h1, h2, h3, h4, h5, h6⟩ := h.vec_at hi hz hv hw hvec hc hT
  have : w.length = 4 + (ys.length + rest.length) := by rw [hvec]; simp only [List.length_append, le_length]
  exact ⟨h1, h3, by omega, h4, h6⟩
structure MapTold (T : List Nat) (fs gs : List Fld) (m i j jc cnt lv t : Nat) (jy : List Nat) : Prop where
  top : T.length ≤ 100000
  mg : ∃ vs xs, Mg T fidMap vs xs t
  keys : Vec T 0 (cat fs).length (cat fs)
  koff : Vec T 1 (m - 1) (ofb fs 1 (m - 1))
  vals : Vec T i (cat gs).length (cat gs)
  last : Vec T j jc jy
  cnt : Num T 8 9 cnt
  lvl : Num T 1 10 lv
  none_ : ∀ k, k ≠ 0 → k ≠ 1 → k ≠ i → k ≠ j → k ≠ 2 → k ≠ 5 → k ≠ 9 → k ≠ 10 → fld T k = 0

theorem finO_length (ma q : Nat) (fid xs : List Nat) : (finO ma q fid xs).length = 4 + (fid.length + (padOf ma (xs.length + 8) + xs.length)) := by
  simp only [finO, List.length_append, le_length, zr_length]
theorem num_of {T fid vs xs : List Nat} {t k i v : Nat} {p : List Nat × List Nat} (h : Mg T fid vs xs t) (hi : v ≠ 0 → i < t) (hs : (putN k i v p).2 <:+ xs) (hg : vs.getD i 0 = (putN k i v p).1.getD i 0) (hp : i < p.1.length) (hp0 : p.1.getD i 0 = 0) (hk : 0 < k) (hb : v < 256 ^ k) : Num T k i v := by
  by_cases h0 : v = 0
  · subst h0
    have : fld T i = 0 := h.fld0 fun _ => by rw [hg]; unfold putN; rw [if_pos rfl]; exact hp0
    exact ⟨by unfold num; rw [if_pos this], fun h => absurd this h⟩
  · rw [putN_at h0 hp] at hg
    have hs' : ysN k v p.2 <:+ xs := by unfold putN at hs; rw [if_neg h0] at hs; exact hs
    obtain ⟨h1, h2⟩ := h.num_at (hi h0) hs' hg hk hb
    exact ⟨h1, fun _ => h2⟩

theorem mapTold (fs gs : List Fld) (m i j cnt lv ma t jc : Nat) (x jy jr : List Nat) (hij : (i = 3 ∧ j = 4) ∨ (i = 7 ∧ j = 8)) (hx : valsX fs gs m <:+ x) (hxl : x.length ≤ 60000) (hj : x = le 4 jc ++ (jy ++ jr)) (hjc : jc ≤ 100000)
    (ht : t = if lv = 0 then 10 else 11) (hlv : lv < 256) (hc : cnt < 18446744073709551616) (hma : ma = 4 ∨ ma = 8) (hm : m ≤ 200) : MapTold (msgO ma t x (mapO fs gs m x i j cnt lv)) fs gs m i j jc cnt lv t jy := by
  obtain ⟨p1, hp1⟩ : ∃ p1, p1 = putU 0 (vec (cat fs) []).length (zr 11, x) := ⟨_, rfl⟩
  obtain ⟨p2, hp2⟩ : ∃ p2, p2 = putU 1 (keysX fs m).length p1 := ⟨_, rfl⟩
  obtain ⟨p3, hp3⟩ : ∃ p3, p3 = putU i (valsX fs gs m).length p2 := ⟨_, rfl⟩
  obtain ⟨p4, hp4⟩ : ∃ p4, p4 = putU j x.length p3 := ⟨_, rfl⟩
  obtain ⟨p5, hp5⟩ : ∃ p5, p5 = putN 8 9 cnt p4 := ⟨_, rfl⟩
  obtain ⟨p6, hp6⟩ : ∃ p6, p6 = putN 1 2 1 p5 := ⟨_, rfl⟩
  obtain ⟨p7, hp7⟩ : ∃ p7, p7 = putN 1 5 1 p6 := ⟨_, rfl⟩
  obtain ⟨p8, hp8⟩ : ∃ p8, p8 = putN 1 10 lv p7 := ⟨_, rfl⟩
  have e0 : mapO fs gs m x i j cnt lv = p8 := by rw [hp8, hp7, hp6, hp5, hp4, hp3, hp2, hp1]; rfl
  rw [e0]
  have U : Und 11 p8 x.length (x.length + 50) := by
    rw [hp8, hp7, hp6, hp5, hp4, hp3, hp2, hp1]
    exact und_N (und_N (und_N (und_N (und_U (und_U (und_U (und_U (und_start 11 x) _ _) _ _) _ _) _ _) (by omega) _ _) (by omega) _ _) (by omega) _ _) (by omega) _ _
  have l1 : p1.1.length = 11 := by rw [hp1, putU_len]; rfl
  have l2 : p2.1.length = 11 := by rw [hp2, putU_len]; exact l1
  have l3 : p3.1.length = 11 := by rw [hp3, putU_len]; exact l2
  have l4 : p4.1.length = 11 := by rw [hp4, putU_len]; exact l3
  have l7 : p7.1.length = 11 := by rw [hp7, putN_len, hp6, putN_len, hp5, putN_len]; exact l4
  have s0 : x <:+ p1.2 := by rw [hp1]; exact suf_putU 0 _ (zr 11, x)
  have s1 : p1.2 <:+ p2.2 := by rw [hp2]; exact suf_putU _ _ _
  have s2 : p2.2 <:+ p3.2 := by rw [hp3]; exact suf_putU _ _ _
  have s3 : p3.2 <:+ p4.2 := by rw [hp4]; exact suf_putU _ _ _
  have s4 : p4.2 <:+ p5.2 := by rw [hp5]; exact suf_putN _ _ _ _
  have s5 : p5.2 <:+ p6.2 := by rw [hp6]; exact suf_putN _ _ _ _
  have s6 : p6.2 <:+ p7.2 := by rw [hp7]; exact suf_putN _ _ _ _
  have s7 : p7.2 <:+ p8.2 := by rw [hp8]; exact suf_putN _ _ _ _
  have t5 : p5.2 <:+ p8.2 := (s5.trans s6).trans s7
  have t4 : p4.2 <:+ p8.2 := s4.trans t5
  have t3 : p3.2 <:+ p8.2 := s3.trans t4
  have t2 : p2.2 <:+ p8.2 := s2.trans t3
  have t1 : p1.2 <:+ p8.2 := s1.trans t2
  have kx : keysX fs m <:+ x := (suf_vec (cat gs) (keysX fs m)).trans hx
  have fx : vec (cat fs) [] <:+ x := (suf_offv fs m _).trans kx
  have h4 := padOf_lt 4 p8.2.length (by omega)
  have hUt := U.top
  have ht11 : t ≤ 11 ∧ 10 ≤ t := by rw [ht]; split <;> omega
  have M : Mg (msgO ma t x p8) fidMap p8.1 p8.2 t := mg (oe := x.length) (ma := ma) (fid := fidMap) (fun v hv => by
    unfold fo
    split
    · omega
    · rcases U.lo v hv with h5 | h5 <;> omega) rfl (by omega) (by omega) hma
  have hpm : padOf ma ((endO p8.1 p8.2 x.length t).length + 8) < 8 := by rcases hma with rfl | rfl <;> have := padOf_lt 4 ((endO p8.1 p8.2 x.length t).length + 8) (by omega) <;> have := padOf_lt 8 ((endO p8.1 p8.2 x.length t).length + 8) (by omega) <;> omega
  have hTl : (msgO ma t x p8).length ≤ 100000 := by
    have h6 := endO_length p8.1 p8.2 x.length t
    unfold msgO
    rw [finO_length]
    have : fidMap.length = 4 := rfl
    omega
  have g9 : ∀ k, k ≠ 10 → k ≠ 5 → k ≠ 2 → p8.1.getD k 0 = p5.1.getD k 0 := fun k h1 h2 h3 => by
    rw [hp8, putN_ne h1, hp7, putN_ne h2, hp6, putN_ne h3]
  have g4 : ∀ k, k ≠ 10 → k ≠ 5 → k ≠ 2 → k ≠ 9 → p8.1.getD k 0 = p4.1.getD k 0 := fun k h1 h2 h3 h5 => by
    rw [g9 k h1 h2 h3, hp5, putN_ne h5]
  have z0 : (zr 11, x).1.length = 11 := rfl
  have hl := fx.length_le
  refine ⟨hTl, ⟨_, _, M⟩, ?_, ?_, ?_, ?_, ?_, ?_, fun k k0 k1 ki kj k2 k5 k9 k10 => ?_⟩
  · refine M.vec (by omega) (prev := x) (w := vec (cat fs) []) (rest := zr (padOf 4 (([] : List Nat).length + (cat fs).length)) ++ []) ?_ ?_ fx rfl ?_ (by omega)
    · have := t1; rw [hp1] at this; exact this
    · rw [g4 0 (by omega) (by omega) (by omega) (by omega), hp4, putU_ne (by omega), hp3, putU_ne (by omega), hp2, putU_ne (by omega), hp1, putU_at (by rw [z0]; omega)]
    · have := vec_length (cat fs) []; omega
  · refine M.vec (by omega) (prev := p1.2) (w := keysX fs m) (rest := zr (padOf 4 ((vec (cat fs) []).length + 2 * (m - 1))) ++ vec (cat fs) []) ?_ ?_ (kx.trans s0) rfl (by omega) (by omega)
    · have := t2; rw [hp2] at this; exact this
    · rw [g4 1 (by omega) (by omega) (by omega) (by omega), hp4, putU_ne (by omega), hp3, putU_ne (by omega), hp2, putU_at (by omega)]
  · refine M.vec (by omega) (prev := p2.2) (w := valsX fs gs m) (rest := zr (padOf 4 ((keysX fs m).length + (cat gs).length)) ++ keysX fs m) ?_ ?_ (hx.trans (s0.trans s1)) rfl ?_ (by omega)
    · have := t3; rw [hp3] at this; exact this
    · rw [g4 i (by omega) (by omega) (by omega) (by omega), hp4, putU_ne (by omega), hp3, putU_at (by omega)]
    · have := vec_length (cat gs) (keysX fs m); have := hx.length_le; unfold valsX at this; omega
  · refine M.vec (by omega) (prev := p3.2) (w := x) (rest := jr) ?_ ?_ (s0.trans (s1.trans s2)) hj (by omega) (by omega)
    · have := t4; rw [hp4] at this; exact this
    · rw [g4 j (by omega) (by omega) (by omega) (by omega), hp4, putU_at (by omega)]
  · refine num_of (p := p4) M (fun _ => by omega) (by rw [← hp5]; exact t5) (by rw [g9 9 (by omega) (by omega) (by omega), hp5]) (by omega) ?_ (by omega) hc
    rw [hp4, putU_ne (by omega), hp3, putU_ne (by omega), hp2, putU_ne (by omega), hp1, putU_ne (by omega)]
    exact zr_getD 11 9
  · refine num_of (p := p7) M (fun h0 => by rw [ht, if_neg h0]; omega) (by rw [← hp8]; exact List.suffix_refl _) (by rw [hp8]) (by omega) ?_ (by omega) (by omega)
    rw [hp7, putN_ne (by omega), hp6, putN_ne (by omega), hp5, putN_ne (by omega), hp4, putU_ne (by omega), hp3, putU_ne (by omega), hp2, putU_ne (by omega), hp1, putU_ne (by omega)]
    exact zr_getD 11 10
  · refine M.fld0 fun _ => ?_
    rw [g4 k k10 k5 k2 k9, hp4, putU_ne kj, hp3, putU_ne ki, hp2, putU_ne k1, hp1, putU_ne k0]
    exact zr_getD 11 k
end Go.Proofs.YtegohkgmamnkdaaGreat.Msg
