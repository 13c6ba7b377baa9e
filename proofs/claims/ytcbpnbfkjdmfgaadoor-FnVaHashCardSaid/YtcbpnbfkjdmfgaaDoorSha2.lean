/- SHA-512 in plain words: the words of a block, the rounds, the whole. No condition. -/
import Derived.Test.YtcbpnbfkjdmfgaaDoorSha1
set_option linter.unusedVariables false
namespace Go.Proofs.YtcbpnbfkjdmfgaaDoor.Sha
open Go.Proofs.YtcbpnbfkjdmfgaaDoor.Dig Go.Proofs.YtcbpnbfkjdmfgaaDoor.Mem Go.Proofs.YtcbpnbfkjdmfgaaDoor.Rb

def plus (a b : Int) : Int := IntKind.u64.wrap (a + b)
theorem plus_mod (a b : Int) : (a + b) % 18446744073709551616 = plus a b := by unfold plus; rw [IntKind.wrap_u64]
def bx (a b : Int) : Int := bits .xor .u64 a b
def ba (a b : Int) : Int := bits .and .u64 a b
def bn (a : Int) : Int := bits .xor .u64 18446744073709551615 a
def sm0 (x : Int) : Int := bx (bx (rot 1 x) (rot 8 x)) (x / 128)
def sm1 (x : Int) : Int := bx (bx (rot 19 x) (rot 61 x)) (x / 64)
def Sg1 (e : Int) : Int := bx (bx (rot 14 e) (rot 18 e)) (rot 41 e)
def Sg0 (a : Int) : Int := bx (bx (rot 28 a) (rot 34 a)) (rot 39 a)
def cho (e f g : Int) : Int := bx (ba e f) (ba (bn e) g)
def maj (a b c : Int) : Int := bx (bx (ba a b) (ba a c)) (ba b c)
/-- The state: eight words. -/
structure S8 where
  a : Int
  b : Int
  c : Int
  d : Int
  e : Int
  f : Int
  g : Int
  h : Int
def one (s : S8) (k w : Int) : Int := plus (plus (plus (plus s.h (Sg1 s.e)) (cho s.e s.f s.g)) k) w
def two (s : S8) : Int := plus (Sg0 s.a) (maj s.a s.b s.c)
def step (s : S8) (k w : Int) : S8 := ⟨plus (one s k w) (two s), s.a, s.b, s.c, plus s.d (one s k w), s.e, s.f, s.g⟩
def sum8 (s t : S8) : S8 := ⟨plus s.a t.a, plus s.b t.b, plus s.c t.c, plus s.d t.d, plus s.e t.e, plus s.f t.f, plus s.g t.g, plus s.h t.h⟩
def S8.list (s : S8) : List Int := [s.a, s.b, s.c, s.d, s.e, s.f, s.g, s.h]

/-- Word n of a block, from its bytes; from those ahead of it. -/
def be8 (p : List Nat) (n : Nat) : Int := ((val 256 ((p.drop (8 * n)).take 8) : Nat) : Int)
def wnext (p : List Nat) (L : List Int) (n : Nat) : Int := if n < 16 then be8 p n else plus (plus (plus (sm1 (L.getD (n - 2) 0)) (L.getD (n - 7) 0)) (sm0 (L.getD (n - 15) 0))) (L.getD (n - 16) 0)
def ws (p : List Nat) : Nat → List Int
  | 0 => []
  | n + 1 => ws p n ++ [wnext p (ws p n) n]
theorem ws_length (p : List Nat) : ∀ n, (ws p n).length = n
  | 0 => rfl
  | n + 1 => by unfold ws; rw [List.length_append, ws_length p n]; rfl
theorem ws_take (p : List Nat) : ∀ n m, n ≤ m → (ws p m).take n = ws p n
  | n, 0, h => by
    have : n = 0 := by omega
    subst this; rfl
  | n, m + 1, h => by
    rcases Nat.lt_or_ge n (m + 1) with h1 | h1
    · show (ws p m ++ [wnext p (ws p m) m]).take n = _
      rw [List.take_append_of_le_length (by rw [ws_length]; omega)]
      exact ws_take p n m (by omega)
    · have : n = m + 1 := by omega
      subst this
      exact List.take_of_length_le (by rw [ws_length]; exact Nat.le_refl _)
theorem ws_get (p : List Nat) (n m i : Nat) (h : n ≤ m) (hi : i < n) : (ws p m).getD i 0 = (ws p n).getD i 0 := by
  rw [← ws_take p n m h, List.getD_eq_getElem?_getD, List.getD_eq_getElem?_getD, List.getElem?_take_of_lt hi]
/-- The rounds of a block. -/
def rounds (K : List Int) (p : List Nat) (s : S8) : Nat → S8
  | 0 => s
  | n + 1 => step (rounds K p s n) (K.getD n 0) ((ws p 80).getD n 0)
def comp (K : List Int) (s : S8) (p : List Nat) : S8 := sum8 s (rounds K p s 80)
/-- Some blocks, one behind another. -/
def comps (K : List Int) (s : S8) (p : List Nat) : Nat → S8
  | 0 => s
  | n + 1 => comp K (comps K s p n) ((p.drop (128 * n)).take 128)

theorem val_snoc (l : List Nat) (d : Nat) : val 256 (l ++ [d]) = val 256 l * 256 + d := by simp [val]
/-- The row of words behind i bytes of a block. -/
def hw (p : List Nat) (i : Nat) : List Int := (List.range 80).map fun j => ((val 256 ((p.drop (8 * j)).take (min 8 (i - 8 * j))) : Nat) : Int)
theorem hw_length (p : List Nat) (i : Nat) : (hw p i).length = 80 := by simp [hw]
theorem hw_at (p : List Nat) (i j : Nat) (h : j < 80) : (hw p i).getD j 0 = ((val 256 ((p.drop (8 * j)).take (min 8 (i - 8 * j))) : Nat) : Int) := by
  simp [hw, List.getD_eq_getElem?_getD, h]
theorem hw_zero (p : List Nat) : hw p 0 = List.replicate 80 0 := by
  unfold hw
  rw [List.eq_replicate_iff]
  refine ⟨by simp, fun b hb => ?_⟩
  obtain ⟨j, _, rfl⟩ := List.mem_map.1 hb
  simp [val]
theorem hw_step (p : List Nat) (hp : p.length = 128) (i : Nat) (hi : i < 128) : (hw p i).set (i / 8) ((((val 256 ((p.drop (8 * (i / 8))).take (i % 8))) * 256 + p.getD i 0 : Nat)) : Int) = hw p (i + 1) := by
  apply List.ext_getElem
  · simp [hw]
  · intro j h1 h2
    have hj : j < 80 := by simpa [hw] using h2
    rw [List.getElem_set]
    by_cases e : i / 8 = j
    · rw [if_pos e]
      simp only [hw, List.getElem_map, List.getElem_range]
      subst e
      have e1 : min 8 (i + 1 - 8 * (i / 8)) = i % 8 + 1 := by omega
      have e2 : (p.drop (8 * (i / 8))).take (i % 8 + 1) = (p.drop (8 * (i / 8))).take (i % 8) ++ [p.getD i 0] := by
        rw [List.take_succ_eq_append_getElem (by rw [List.length_drop]; omega), List.getElem_drop, List.getD_eq_getElem?_getD, List.getElem?_eq_getElem (by omega)]
        congr 2
        simp only [Option.getD_some]
        congr 1
        omega
      rw [e1, e2, val_snoc]
    · rw [if_neg e]
      simp only [hw, List.getElem_map, List.getElem_range]
      have : min 8 (i + 1 - 8 * j) = min 8 (i - 8 * j) := by omega
      rw [this]
theorem ws_low (p : List Nat) : ∀ n, n ≤ 16 → ws p n = (List.range n).map (be8 p)
  | 0, _ => rfl
  | n + 1, h => by
    unfold ws wnext
    rw [if_pos (by omega), ws_low p n (by omega), List.range_succ, List.map_append]
    rfl
theorem hw_end (p : List Nat) : hw p 128 = ws p 16 ++ List.replicate 64 0 := by
  rw [ws_low p 16 (Nat.le_refl _)]
  apply List.ext_getElem
  · simp [hw]
  · intro j h1 h2
    have hj : j < 80 := by simpa [hw] using h1
    rw [List.getElem_append]
    split
    · rename_i h
      have h : j < 16 := by simpa using h
      simp only [hw, List.getElem_map, List.getElem_range, be8]
      have : min 8 (128 - 8 * j) = 8 := by omega
      rw [this]
    · rename_i h
      have h : ¬ j < 16 := by simpa using h
      simp only [hw, List.getElem_map, List.getElem_range, List.getElem_replicate]
      have : min 8 (128 - 8 * j) = 0 := by omega
      rw [this]
      simp [val]
/-- The row of words behind t of them. -/
theorem ws_set (p : List Nat) (old : List Int) (t : Nat) (ho : old.length = 80) (h : t < 80) : (ws p t ++ old.drop t).set t (wnext p (ws p t) t) = ws p (t + 1) ++ old.drop (t + 1) := by
  have hl := ws_length p t
  rw [List.set_append_right _ _ (by omega), hl, Nat.sub_self, List.drop_eq_getElem_cons (by omega : t < old.length), List.set_cons_zero]
  show _ = (ws p t ++ [wnext p (ws p t) t]) ++ _
  rw [List.append_assoc]
  rfl
theorem ws_row_at (p : List Nat) (old : List Int) (t i : Nat) (h : i < t) : (ws p t ++ old.drop t).getD i 0 = (ws p t).getD i 0 := by
  rw [List.getD_eq_getElem?_getD, List.getD_eq_getElem?_getD, List.getElem?_append_left (by rw [ws_length]; exact h)]
end Go.Proofs.YtcbpnbfkjdmfgaaDoor.Sha
