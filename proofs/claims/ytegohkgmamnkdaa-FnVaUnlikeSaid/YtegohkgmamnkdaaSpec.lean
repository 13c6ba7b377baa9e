/- What a node's message is, as a plain list of bytes; the builder's steps in these words. Condition: the builder grows once at most. -/
import Derived.Test.YtegohkgmamnkdaaEst
set_option linter.unusedVariables false
namespace Go.Proofs.Ytegohkgmamnkdaa.Msg
open Go.ChangeShapes Go.WideShapes Go.ChangeAt Go.RowKit
open Go.Proofs.Ytegohkgmamnkdaa.Dig Go.Proofs.Ytegohkgmamnkdaa.Mem Go.Proofs.Ytegohkgmamnkdaa.Rb

def zr (n : Nat) : List Nat := List.replicate n 0
theorem zr_length (n : Nat) : (zr n).length = n := List.length_replicate
/-- A vector of bytes ahead of xs. -/
def vec (ys xs : List Nat) : List Nat := le 4 ys.length ++ (ys ++ (zr (padOf 4 (xs.length + ys.length)) ++ xs))
/-- The offsets of m rows ahead of xs. -/
def offv (fs : List Fld) (m : Nat) (xs : List Nat) : List Nat := le 4 (m - 1) ++ (ofb fs 1 (m - 1) ++ (zr (padOf 4 (xs.length + 2 * (m - 1))) ++ xs))
theorem vec_length (ys xs : List Nat) : (vec ys xs).length = padOf 4 (xs.length + ys.length) + xs.length + ys.length + 4 := by
  simp only [vec, List.length_append, le_length, zr_length]; omega
theorem offv_length (fs : List Fld) (m : Nat) (xs : List Nat) : (offv fs m xs).length = padOf 4 (xs.length + 2 * (m - 1)) + xs.length + 2 * (m - 1) + 4 := by
  simp only [offv, List.length_append, le_length, zr_length, ofb_length]; omega
/-- A field of the object: a distance; a number of k bytes, none where it is 0. -/
def ysU (off : Nat) (xs : List Nat) : List Nat := le 4 (xs.length + padOf 4 xs.length - off + 4) ++ (zr (padOf 4 xs.length) ++ xs)
def ysN (k v : Nat) (xs : List Nat) : List Nat := le k v ++ (zr (padOf k xs.length) ++ xs)
def putU (i off : Nat) (p : List Nat × List Nat) : List Nat × List Nat := (p.1.set i (ysU off p.2).length, ysU off p.2)
def putN (k i v : Nat) (p : List Nat × List Nat) : List Nat × List Nat := if v = 0 then p else (p.1.set i (ysN k v p.2).length, ysN k v p.2)
theorem ysU_length (off : Nat) (xs : List Nat) : (ysU off xs).length = xs.length + padOf 4 xs.length + 4 := by
  simp only [ysU, List.length_append, le_length, zr_length]; omega
theorem ysN_length (k v : Nat) (xs : List Nat) : (ysN k v xs).length = xs.length + padOf k xs.length + k := by
  simp only [ysN, List.length_append, le_length, zr_length]; omega
/-- The object's end: the table of its fields ahead of it, and itself. -/
def endO (vs xs : List Nat) (oe t : Nat) : List Nat :=
  le 2 ((t + 2) * 2) ++ (le 2 (xs.length + padOf 4 xs.length + 4 - oe) ++ (vtb vs (xs.length + padOf 4 xs.length + 4) 0 t ++ (le 4 (2 * t + 4) ++ (zr (padOf 4 xs.length) ++ xs))))
/-- The message: the root's place, the identifier, the rest. -/
def finO (ma q : Nat) (fid xs : List Nat) : List Nat := le 4 (padOf ma (xs.length + 8) + xs.length + 4 - q + 4) ++ (fid ++ (zr (padOf ma (xs.length + 8)) ++ xs))

/-- A list that an object under way is: its fields' places stay in it. -/
structure Und (n : Nat) (p : List Nat × List Nat) (L M : Nat) : Prop where
  len : p.1.length = n
  le : ∀ v ∈ p.1, v ≤ p.2.length
  top : p.2.length ≤ M
  low : L ≤ p.2.length
  lo : ∀ v ∈ p.1, v = 0 ∨ L ≤ v
theorem und_set {n L M M' : Nat} {p : List Nat × List Nat} (h : Und n p L M) (i : Nat) (ys : List Nat) (h1 : p.2.length ≤ ys.length) (h2 : ys.length ≤ M') : Und n (p.1.set i ys.length, ys) L M' :=
  ⟨by rw [List.length_set]; exact h.len, fun v hv => by
    rcases List.mem_or_eq_of_mem_set hv with h3 | h3
    · exact Nat.le_trans (h.le v h3) h1
    · rw [h3]; exact Nat.le_refl _, h2, Nat.le_trans h.low h1, fun v hv => by
    rcases List.mem_or_eq_of_mem_set hv with h3 | h3
    · exact h.lo v h3
    · rw [h3]; exact Or.inr (Nat.le_trans h.low h1)⟩
theorem und_start (n : Nat) (xs : List Nat) : Und n (zr n, xs) xs.length xs.length := by
  have hz : ∀ v ∈ zr n, v = 0 := fun v hv => (List.mem_replicate.1 hv).2
  exact ⟨zr_length n, fun v hv => by rw [hz v hv]; omega, Nat.le_refl _, Nat.le_refl _, fun v hv => Or.inl (hz v hv)⟩
theorem und_U {n L M : Nat} {p : List Nat × List Nat} (h : Und n p L M) (i off : Nat) : Und n (putU i off p) L (M + 7) := by
  have := padOf_lt 4 p.2.length (by omega)
  have := h.top
  exact und_set h i _ (by rw [ysU_length]; omega) (by rw [ysU_length]; omega)
theorem und_N {n L M k : Nat} {p : List Nat × List Nat} (h : Und n p L M) (hk : 0 < k) (i v : Nat) : Und n (putN k i v p) L (M + 2 * k) := by
  unfold putN
  have := padOf_lt k p.2.length hk
  have := h.top
  split
  · exact ⟨h.len, h.le, by omega, h.low, h.lo⟩
  · exact und_set h i _ (by rw [ysN_length]; omega) (by rw [ysN_length]; omega)

section
variable {w0 w : World} {B N0 r V n L M : Nat} {K : List (Nat × Obj)} {p : List Nat × List Nat} {s : St}
theorem mx_of {a b : Nat} (h : b ≤ a) : mx a b = a := by unfold mx; rw [if_neg (by omega)]
theorem st_ma {a : Nat} (h : a ≤ s.ma) : ({ s with ma := mx s.ma a } : St) = s := by rw [mx_of h]
theorem stepU (h : Bx w0 w B N0 r ((V, UO p.1) :: K) p.2 s) (hf : Fine N0 s) (hV : ∀ q ∈ K, q.1 ≠ V) (hvt : s.vt = .slice (some ⟨V, 0, none⟩) n n) (u : Und n p L M) (hM : M + 20 < N0 * 2) (hma : 4 ≤ s.ma) (i off : Nat) (hi : i < n) (hoff : off ≤ p.2.length) (h0 : 0 < off) (O : Int) (hO : O = (i : Int)) :
    Calls Try.prog 45 #[.pointer (some ⟨B, 0, none⟩), .int .i64 O, .int .u32 (off : Int), .int .u32 0] w fun e w' => e = .returned (.tuple #[]) ∧ Bx w0 w' B N0 0 ((V, UO (putU i off p).1) :: K) (putU i off p).2 s := by
  have h4 := padOf_lt 4 p.2.length (by omega)
  have ht := u.top
  have := uoSlot w0 w B N0 r V n i (padOf 4 p.2.length) off _ K p.1 p.2 (ysU off p.2) s h hf hV hvt u.len hi rfl (by omega) hoff h0 rfl rfl O hO
  exact this.mono fun e w' ⟨he, hb⟩ => ⟨he, bx_st hb (st_ma hma)⟩
theorem stepB (h : Bx w0 w B N0 r ((V, UO p.1) :: K) p.2 s) (hf : Fine N0 s) (hV : ∀ q ∈ K, q.1 ≠ V) (hvt : s.vt = .slice (some ⟨V, 0, none⟩) n n) (u : Und n p L M) (hM : M + 20 < N0 * 2) (hma : 1 ≤ s.ma) (i v : Nat) (hi : i < n) (hv : v < 256) (O : Int) (hO : O = (i : Int)) (X : Int) (hX : X = (v : Int)) :
    Calls Try.prog 47 #[.pointer (some ⟨B, 0, none⟩), .int .i64 O, .int .u8 X, .int .u8 0] w fun e w' => e = .returned (.tuple #[]) ∧ Bx w0 w' B N0 0 ((V, UO (putN 1 i v p).1) :: K) (putN 1 i v p).2 s := by
  subst hX
  unfold putN
  split
  · next h0 =>
    subst h0
    exact (byteSlot0 w B O).mono fun e w' ⟨he, hb⟩ => ⟨he, hb ▸ h.less (Nat.zero_le _)⟩
  · next h0 =>
    have h4 := padOf_lt 1 p.2.length (by omega)
    have ht := u.top
    have := byteSlot w0 w B N0 r V n i (padOf 1 p.2.length) v K p.1 p.2 (ysN 1 v p.2) s h hf hV hvt u.len hi rfl (by omega) hv (by omega) rfl O hO
    exact this.mono fun e w' ⟨he, hb⟩ => ⟨he, bx_st hb (st_ma hma)⟩
/-- The greatest alignment behind a number of eight bytes. -/
def ma8 (s : St) (v : Nat) : St := if v = 0 then s else { s with ma := mx s.ma 8 }
theorem step8 (h : Bx w0 w B N0 r ((V, UO p.1) :: K) p.2 s) (hf : Fine N0 s) (hV : ∀ q ∈ K, q.1 ≠ V) (hvt : s.vt = .slice (some ⟨V, 0, none⟩) n n) (u : Und n p L M) (hM : M + 20 < N0 * 2) (i v : Nat) (hi : i < n) (hv : v < 18446744073709551616) (O : Int) (hO : O = (i : Int)) :
    Calls Try.prog 46 #[.pointer (some ⟨B, 0, none⟩), .int .i64 O, .int .u64 (v : Int), .int .u64 0] w fun e w' => e = .returned (.tuple #[]) ∧ Bx w0 w' B N0 0 ((V, UO (putN 8 i v p).1) :: K) (putN 8 i v p).2 (ma8 s v) := by
  unfold putN ma8
  split
  · next h0 =>
    subst h0
    exact (u64Slot0 w B O).mono fun e w' ⟨he, hb⟩ => ⟨he, hb ▸ h.less (Nat.zero_le _)⟩
  · next h0 =>
    have h4 := padOf_lt 8 p.2.length (by omega)
    have ht := u.top
    exact u64Slot w0 w B N0 r V n i (padOf 8 p.2.length) v K p.1 p.2 (ysN 8 v p.2) s h hf hV hvt u.len hi rfl (by omega) hv (by omega) rfl O hO
/-- The object's end, in these words. -/
theorem stepEnd {VT t oe : Nat} {us' : List Nat} (h : Bx w0 w B N0 r ((V, UO p.1) :: (VT, UO us') :: K) p.2 s) (hf : Fine N0 s) (hs : s.ne = true) (hV : ∀ q ∈ K, q.1 ≠ V ∧ q.1 ≠ VT) (hVV : VT ≠ V) (hvt : s.vt = .slice (some ⟨V, 0, none⟩) n n) (hvts : s.vts = .slice (some ⟨VT, 0, none⟩) 0 16) (hu : us'.length = 16)
    (hoe : s.oe = oe) (u : Und n p oe M) (hn2 : n ≤ 20) (ht0 : 0 < t) (htn : t ≤ n) (hlast : p.1.getD (t - 1) 0 ≠ 0) (hz : ∀ i, t ≤ i → i < n → p.1.getD i 0 = 0) (hM : M + 80 < N0 * 2) (hM2 : M ≤ oe + 1000) (hma : 4 ≤ s.ma) (Q : Nat) (hQ : Q = p.2.length + padOf 4 p.2.length + 4) :
    Calls Try.prog 50 #[.pointer (some ⟨B, 0, none⟩)] w fun e w' => e = .returned (.int .u32 (Q : Int)) ∧ Bx w0 w' B N0 0 K (endO p.1 p.2 oe t) { s with vt := .slice (some ⟨V, 0, none⟩) 0 n, vts := .slice (some ⟨VT, 0, none⟩) 1 16, ne := false } := by
  subst hQ
  have h4 := padOf_lt 4 p.2.length (by omega)
  have ht := u.top
  have hl := u.low
  have := endObject w0 w B N0 r V VT n t (padOf 4 p.2.length) (p.2.length + padOf 4 p.2.length + 4) (p.2.length + padOf 4 p.2.length + 4) (p.2.length + padOf 4 p.2.length + 4 - oe) K p.1 us' p.2 s h hf hs hV hVV hvt hvts hu u.len hn2 ht0 htn hlast hz u.le (by rw [hoe]; exact hl) rfl rfl rfl (by rw [hoe]) (by omega) (fun v hv => by
    unfold fo
    split
    · omega
    · rcases u.lo v hv with h5 | h5 <;> omega) (by omega)
  refine this.mono fun e w' ⟨he, hb⟩ => ⟨he, ?_⟩
  rw [mx_of hma] at hb
  exact hb
end
end Go.Proofs.Ytegohkgmamnkdaa.Msg
