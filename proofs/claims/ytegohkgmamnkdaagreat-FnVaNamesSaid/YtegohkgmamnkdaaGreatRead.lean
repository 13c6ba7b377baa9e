/- A message as a plain list of bytes, read: where its fields lie and what they hold. No condition. -/
import Derived.Test.YtegohkgmamnkdaaGreatSerL
set_option linter.unusedVariables false
namespace Go.Proofs.YtegohkgmamnkdaaGreat.Msg
open Go.ChangeShapes Go.WideShapes Go.ChangeAt Go.RowKit
open Go.Proofs.YtegohkgmamnkdaaGreat.Dig Go.Proofs.YtegohkgmamnkdaaGreat.Mem Go.Proofs.YtegohkgmamnkdaaGreat.Rb
open Go.Proofs.YtegohkgmamnkdaaGreat.Cnt (encs enc Nums64)

/-- The number that the first n bytes are, the least first. -/
def unle : Nat → List Nat → Nat
  | 0, _ => 0
  | n + 1, l => l.headD 0 + 256 * unle n l.tail
theorem unle_le : ∀ (n v : Nat) (r : List Nat), v < 256 ^ n → unle n (le n v ++ r) = v
  | 0, v, r, h => by simp at h; simp [unle, h]
  | n + 1, v, r, h => by
    have h1 : v / 256 < 256 ^ n := Nat.div_lt_of_lt_mul (by rw [Nat.pow_succ, Nat.mul_comm] at h; exact h)
    simp only [le, List.cons_append, unle, List.headD_cons, List.tail_cons, unle_le n (v / 256) r h1]
    omega
def pos (T : List Nat) : Nat := unle 4 T
def vtp (T : List Nat) : Nat := pos T - unle 4 (T.drop (pos T))
def fld (T : List Nat) (i : Nat) : Nat := if 4 + 2 * i < unle 2 (T.drop (vtp T)) then unle 2 (T.drop (vtp T + (4 + 2 * i))) else 0
def ind (T : List Nat) (i : Nat) : Nat := fld T i + pos T + unle 4 (T.drop (fld T i + pos T))
def vlen (T : List Nat) (i : Nat) : Nat := unle 4 (T.drop (ind T i))
def vbytes (T : List Nat) (i : Nat) : List Nat := (T.drop (ind T i + 4)).take (vlen T i)
def num (T : List Nat) (k i : Nat) : Nat := if fld T i = 0 then 0 else unle k (T.drop (fld T i + pos T))

theorem drop_suf {x T : List Nat} (h : x <:+ T) (n : Nat) (hn : n = T.length - x.length) : T.drop n = x := by
  subst hn
  exact (List.suffix_iff_eq_drop.1 h).symm
theorem suf_app (a x : List Nat) : x <:+ a ++ x := List.suffix_append a x
theorem vtb_at (vs : List Nat) (Q : Nat) : ∀ (i j c : Nat), j < c → ∃ r, (vtb vs Q i c).drop (2 * j) = le 2 (fo Q (vs.getD (i + j) 0)) ++ r
  | i, 0, 0, h => by omega
  | i, 0, c + 1, _ => ⟨vtb vs Q (i + 1) c, by simp [vtb]⟩
  | i, j + 1, 0, h => by omega
  | i, j + 1, c + 1, h => by
    obtain ⟨r, hr⟩ := vtb_at vs Q (i + 1) j c (by omega)
    refine ⟨r, ?_⟩
    rw [vtb, List.drop_append, List.drop_of_length_le (by rw [le_length]; omega), List.nil_append, le_length, show 2 * (j + 1) - 2 = 2 * j by omega, hr, show i + 1 + j = i + (j + 1) by omega]

section
variable {ma t oe : Nat} {fid vs xs : List Nat}
/-- A message, with an object of the fields vs and the bytes xs. -/
structure Mg (T : List Nat) (fid vs xs : List Nat) (t : Nat) : Prop where
  root : pos T = T.length - (xs.length + padOf 4 xs.length + 4)
  big : xs.length + padOf 4 xs.length + 4 + (2 * t + 4) ≤ T.length
  fidAt : (T.drop 4).take 4 = fid
  suf : xs <:+ T
  fl : ∀ i, i < t → fld T i = fo (xs.length + padOf 4 xs.length + 4) (vs.getD i 0)
  fl0 : ∀ i, t ≤ i → fld T i = 0
  vt : vtp T + (2 * t + 4) = pos T
  vsz : unle 2 (T.drop (vtp T)) = (t + 2) * 2
  so : unle 4 (T.drop (pos T)) = 2 * t + 4
  pos4 : pos T + 4 ≤ T.length
theorem mg (hq : ∀ v ∈ vs, fo (xs.length + padOf 4 xs.length + 4) v < 65536) (hfid : fid.length = 4) (htop : xs.length ≤ 100000) (ht : t ≤ 20) (hma : ma = 4 ∨ ma = 8) :
    Mg (finO ma (xs.length + padOf 4 xs.length + 4) fid (endO vs xs oe t)) fid vs xs t := by
  obtain ⟨P, hP⟩ : ∃ P, P = padOf 4 xs.length := ⟨_, rfl⟩
  obtain ⟨Q, hQ⟩ : ∃ Q, Q = xs.length + P + 4 := ⟨_, rfl⟩
  obtain ⟨E, hE⟩ : ∃ E, E = endO vs xs oe t := ⟨_, rfl⟩
  have hEl : E.length = 2 * t + 4 + Q := by rw [hE, endO_length, ← hP, hQ]; omega
  obtain ⟨P', hP'⟩ : ∃ P', P' = padOf ma (E.length + 8) := ⟨_, rfl⟩
  have b1 : P < 4 := by rw [hP]; exact padOf_lt 4 _ (by omega)
  have b2 : P' < 8 := by rw [hP']; rcases hma with rfl | rfl <;> have := padOf_lt 4 (E.length + 8) (by omega) <;> have := padOf_lt 8 (E.length + 8) (by omega) <;> omega
  rw [← hP, ← hQ] at hq ⊢
  rw [← hE]
  obtain ⟨T, hT⟩ : ∃ T, T = finO ma Q fid E := ⟨_, rfl⟩
  have hT' : T = le 4 (P' + E.length + 4 - Q + 4) ++ (fid ++ (zr P' ++ E)) := by rw [hT, hP']; rfl
  have hTl : T.length = 8 + P' + E.length := by rw [hT']; simp only [List.length_append, le_length, hfid, zr_length]; omega
  rw [← hT]
  have hpos : pos T = T.length - Q := by
    unfold pos
    rw [hT', unle_le 4 _ _ (by omega), ← hT', hTl]; omega
  have sE : E <:+ T := by rw [hT', ← List.append_assoc, ← List.append_assoc]; exact suf_app _ _
  have hE2 : E = (le 2 ((t + 2) * 2) ++ (le 2 (Q - oe) ++ vtb vs Q 0 t)) ++ (le 4 (2 * t + 4) ++ (zr P ++ xs)) := by
    rw [hE]; unfold endO; rw [← hP, ← hQ]; simp only [List.append_assoc]
  have sT : (le 4 (2 * t + 4) ++ (zr P ++ xs)) <:+ T := List.IsSuffix.trans (by rw [hE2]; exact suf_app _ _) sE
  have hvt : vtp T = T.length - E.length := by
    unfold vtp
    rw [hpos, drop_suf sT _ (by simp only [List.length_append, le_length, zr_length]; omega), unle_le 4 _ _ (by omega)]; omega
  have hdE : T.drop (vtp T) = E := drop_suf sE _ hvt
  have hsz : unle 2 (T.drop (vtp T)) = (t + 2) * 2 := by
    rw [hdE, hE2, List.append_assoc, unle_le 2 _ _ (by omega)]
  have hQe : xs.length + padOf 4 xs.length + 4 = Q := by rw [hQ, hP]
  refine ⟨by rw [hQe]; exact hpos, by omega, ?_, List.IsSuffix.trans (by rw [← List.append_assoc]; exact suf_app _ _) sT, fun i hi => ?_, fun i hi => ?_, by rw [hvt, hpos]; omega, hsz, ?_, by rw [hpos]; omega⟩
  · rw [hT', List.drop_append, le_length, List.drop_of_length_le (by rw [le_length]; omega), List.nil_append, Nat.sub_self, List.drop_zero, List.take_append_of_le_length (by omega), List.take_of_length_le (by omega)]
  · rw [hQe]
    unfold fld
    rw [hsz, if_pos (by omega), ← List.drop_drop, hdE]
    obtain ⟨r, hr⟩ := vtb_at vs Q 0 i t hi
    rw [Nat.zero_add] at hr
    have hd : E.drop (4 + 2 * i) = le 2 (fo Q (vs.getD i 0)) ++ (r ++ (le 4 (2 * t + 4) ++ (zr P ++ xs))) := by
      rw [hE2, List.append_assoc, List.append_assoc, show le 2 ((t + 2) * 2) ++ (le 2 (Q - oe) ++ (vtb vs Q 0 t ++ (le 4 (2 * t + 4) ++ (zr P ++ xs)))) = (le 2 ((t + 2) * 2) ++ le 2 (Q - oe)) ++ (vtb vs Q 0 t ++ (le 4 (2 * t + 4) ++ (zr P ++ xs))) by simp only [List.append_assoc],
        List.drop_append, List.drop_of_length_le (by simp only [List.length_append, le_length]; omega), List.nil_append, List.length_append, le_length, le_length, show 4 + 2 * i - (2 + 2) = 2 * i by omega, List.drop_append_of_le_length (by rw [vtb_length]; omega), hr, List.append_assoc]
    rw [hd, unle_le 2 _ _ ?_]
    rcases Nat.lt_or_ge i vs.length with h1 | h1
    · have := hq (vs.getD i 0) (by rw [List.getD_eq_getElem?_getD, List.getElem?_eq_getElem h1]; exact List.getElem_mem h1)
      omega
    · rw [List.getD_eq_getElem?_getD, List.getElem?_eq_none h1]; simp [fo]
  · unfold fld
    rw [hsz, if_neg (by omega)]
  · rw [hpos, drop_suf sT _ (by simp only [List.length_append, le_length, zr_length]; omega), unle_le 4 _ _ (by omega)]
end

section
variable {T fid vs xs : List Nat} {t : Nat}
/-- What lies at a field. -/
theorem Mg.at_ (h : Mg T fid vs xs t) {i : Nat} (hi : i < t) {z : List Nat} (hz : z <:+ xs) (hv : vs.getD i 0 = z.length) (h0 : 0 < z.length) : fld T i + pos T = T.length - z.length ∧ T.drop (fld T i + pos T) = z ∧ fld T i ≠ 0 := by
  have hl := hz.length_le
  have hb := h.big
  have hf := h.fl i hi
  rw [hv] at hf
  unfold fo at hf
  rw [if_neg (by omega)] at hf
  have e : fld T i + pos T = T.length - z.length := by rw [hf, h.root]; omega
  exact ⟨e, drop_suf (hz.trans h.suf) _ e, by omega⟩
/-- A vector that a field leads to. -/
theorem Mg.vec_at (h : Mg T fid vs xs t) {i : Nat} (hi : i < t) {prev w ys rest : List Nat} {c : Nat} (hz : ysU w.length prev <:+ xs) (hv : vs.getD i 0 = (ysU w.length prev).length) (hw : w <:+ prev) (hvec : w = le 4 c ++ (ys ++ rest)) (hc : c < 4294967296) (hT : T.length < 4294967296) :
    fld T i ≠ 0 ∧ ind T i = T.length - w.length ∧ vlen T i = c ∧ (T.drop (ind T i + 4)).take ys.length = ys ∧ w.length ≤ T.length ∧ fld T i + pos T + 4 ≤ T.length := by
  have hlw := hw.length_le
  have hzl := ysU_length w.length prev
  obtain ⟨e1, e2, e3⟩ := h.at_ hi hz hv (by omega)
  have hle := (hz.trans h.suf).length_le
  have hind : ind T i = T.length - w.length := by
    unfold ind
    rw [e2, e1]
    show T.length - (ysU w.length prev).length + unle 4 (le 4 (prev.length + padOf 4 prev.length - w.length + 4) ++ _) = _
    rw [unle_le 4 _ _ (by omega)]; omega
  have sw : w <:+ T := (hw.trans (by unfold ysU; rw [← List.append_assoc]; exact suf_app _ _)).trans (hz.trans h.suf)
  have hd : T.drop (ind T i) = w := drop_suf sw _ hind
  refine ⟨e3, hind, ?_, ?_, sw.length_le, by rw [e1]; omega⟩
  · unfold vlen
    rw [hd, hvec, unle_le 4 _ _ (by omega)]
  · rw [← List.drop_drop, hd, hvec, List.drop_append, List.drop_of_length_le (by rw [le_length]; omega), List.nil_append, le_length, Nat.sub_self, List.drop_zero, List.take_append_of_le_length (Nat.le_refl _), List.take_of_length_le (Nat.le_refl _)]
/-- A number that a field holds. -/
theorem Mg.num_at (h : Mg T fid vs xs t) {i k v : Nat} (hi : i < t) {prev : List Nat} (hz : ysN k v prev <:+ xs) (hv : vs.getD i 0 = (ysN k v prev).length) (hk : 0 < k) (hb : v < 256 ^ k) : num T k i = v ∧ fld T i + pos T + k ≤ T.length := by
  have hzl := ysN_length k v prev
  obtain ⟨e1, e2, e3⟩ := h.at_ hi hz hv (by omega)
  have hle := (hz.trans h.suf).length_le
  refine ⟨?_, by rw [e1]; omega⟩
  unfold num
  rw [if_neg e3, e2]
  unfold ysN
  rw [unle_le k _ _ hb]
theorem Mg.fld0 (h : Mg T fid vs xs t) {i : Nat} (hv : i < t → vs.getD i 0 = 0) : fld T i = 0 := by
  rcases Nat.lt_or_ge i t with h1 | h1
  · rw [h.fl i h1, hv h1]
    rfl
  · exact h.fl0 i h1
end
end Go.Proofs.YtegohkgmamnkdaaGreat.Msg
