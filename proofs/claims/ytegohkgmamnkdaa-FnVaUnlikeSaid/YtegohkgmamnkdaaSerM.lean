/- The message of a map's node: what it is; the parts written, walked. Condition: at most 200 items, 20000 bytes. -/
import Derived.Test.YtegohkgmamnkdaaSpec
import Derived.Test.YtegohkgmamnkdaaEst2
import Derived.Test.YtegohkgmamnkdaaWr4
set_option linter.unusedVariables false
namespace Go.Proofs.Ytegohkgmamnkdaa.Msg
open Go.ChangeShapes Go.WideShapes Go.ChangeAt Go.RowKit
open Go.Proofs.Ytegohkgmamnkdaa.Dig Go.Proofs.Ytegohkgmamnkdaa.Mem Go.Proofs.Ytegohkgmamnkdaa.Rb
open Go.Proofs.Ytegohkgmamnkdaa.Cnt (encs enc Nums64)

def fidMap : List Nat := [84, 85, 80, 77]
def keysX (fs : List Fld) (m : Nat) : List Nat := offv fs m (vec (cat fs) [])
def valsX (fs gs : List Fld) (m : Nat) : List Nat := vec (cat gs) (keysX fs m)
def leafX (fs gs : List Fld) (m : Nat) : List Nat := offv gs m (valsX fs gs m)
def innX (fs gs : List Fld) (ls : List Nat) (m : Nat) : List Nat := vec (encs 0 ls) (valsX fs gs m)
/-- The object of a map's node: its last two fields, its types, its count, its level. -/
def mapO (fs gs : List Fld) (m : Nat) (x : List Nat) (i j : Nat) (cnt lv : Nat) : List Nat × List Nat :=
  putN 1 10 lv (putN 1 5 1 (putN 1 2 1 (putN 8 9 cnt (putU j x.length (putU i (valsX fs gs m).length (putU 1 (keysX fs m).length (putU 0 (vec (cat fs) []).length (zr 11, x))))))))
def msgO (ma t : Nat) (x : List Nat) (o : List Nat × List Nat) : List Nat := finO ma (o.2.length + padOf 4 o.2.length + 4) fidMap (endO o.1 o.2 x.length t)
/-- The message. -/
def msgMap (fs gs : List Fld) (ls : List Nat) (m lv : Nat) : List Nat :=
  if lv = 0 then msgO 8 10 (leafX fs gs m) (mapO fs gs m (leafX fs gs m) 3 4 m 0)
  else msgO (if sumU ls = 0 then 4 else 8) 11 (innX fs gs ls m) (mapO fs gs m (innX fs gs ls m) 7 8 (sumU ls) lv)

section
variable {w0 w : World} {B N0 r : Nat} {K : List (Nat × Obj)} {xs : List Nat} {s : St}
theorem itemsV {a : Option Addr} {m c n : Nat} {fs : List Fld} (h : Bx w0 w B N0 r K xs s) (hf : Fine N0 s) (hs : s.ne = false) (hfs : Flds w0 a m c fs) (hm : m ≤ 200) (hn : n = total fs) (hnb : n ≤ 20010) (hfit : xs.length + 8 + n < N0 * 2) (L : Nat) (hL : L = (vec (cat fs) xs).length) :
    Calls Try.prog 14 #[.pointer (some ⟨B, 0, none⟩), .slice a m c, .int .i64 (n : Int)] w fun e w' => e = .returned (.int .u32 (L : Int)) ∧ Bx w0 w' B N0 0 K (vec (cat fs) xs) { s with ma := mx s.ma 4 } := by
  have hcl : (cat fs).length = n := by rw [hn]; exact cat_length hfs.ok
  have h4 := padOf_lt 4 (xs.length + n) (by omega)
  have := writeItems w0 w B N0 r n m c (padOf 4 (xs.length + n)) L a K fs xs s h hf hs hfs hm hn hnb rfl (by omega) (by rw [hL, vec_length, hcl])
  unfold vec
  rw [hcl]
  exact this
theorem offsV {a : Option Addr} {m c n : Nat} {fs : List Fld} (h : Bx w0 w B N0 (2 * (m - 1) + 4) K (zr (padOf 4 (xs.length + 2 * (m - 1))) ++ xs) s) (hf : Fine N0 s) (hs : s.ne = true) (hma : 4 ≤ s.ma) (hfs : Flds w0 a m c fs) (hm : m ≤ 200) (hm0 : 0 < m) (hn : n = total fs) (hnb : n ≤ 20010) (hfit : xs.length + 8 + 2 * (m - 1) < N0 * 2) (L : Nat) (hL : L = (offv fs m xs).length) :
    Calls Try.prog 16 #[.pointer (some ⟨B, 0, none⟩), .slice a m c, .int .i64 (n : Int)] w fun e w' => e = .returned (.int .u32 (L : Int)) ∧ Bx w0 w' B N0 0 K (offv fs m xs) { s with ne := false } := by
  have h4 := padOf_lt 4 (xs.length + 2 * (m - 1)) (by omega)
  have hl : (zr (padOf 4 (xs.length + 2 * (m - 1))) ++ xs).length = padOf 4 (xs.length + 2 * (m - 1)) + xs.length := by rw [List.length_append, zr_length]
  exact writeOffsets w0 w B N0 n m c L a K fs _ s h hf hs hma hfs hm hm0 hn hnb (by rw [hl]; unfold padOf; omega) (by rw [hl]; omega) (by rw [hL, offv_length, hl])
theorem startV {m : Nat} (h : Bx w0 w B N0 r K xs s) (hf : Fine N0 s) (hs : s.ne = false) (hma : 4 ≤ s.ma) (hm : m ≤ 200) (hfit : xs.length + 8 + 2 * (m - 1) < N0 * 2) (M1 : Int) (hM1 : M1 = ((m - 1 : Nat) : Int)) :
    Calls Try.prog 39 #[.pointer (some ⟨B, 0, none⟩), .int .i64 2, .int .i64 M1, .int .i64 2] w fun e w' => (∃ v, e = .returned (.int .u32 v)) ∧ Bx w0 w' B N0 (2 * (m - 1) + 4) K (zr (padOf 4 (xs.length + 2 * (m - 1))) ++ xs) { s with ne := true } := by
  subst hM1
  have h4 := padOf_lt 4 (xs.length + 2 * (m - 1)) (by omega)
  exact startVector w0 w B N0 r (m - 1) (2 * (m - 1)) _ K xs s h hf hs (by omega) rfl rfl (by omega) hma
theorem countsV {a : Option Addr} {n c : Nat} {ls : List Nat} (h : Bx w0 w B N0 r K xs s) (hf : Fine N0 s) (hs : s.ne = false) (hl : ls.length = n) (hn : n ≤ 200) (hb : ∀ x ∈ ls, x < 18446744073709551616) (hc : Nums64 w0 a ls) (hfit : xs.length + 8 + 10 * n < N0 * 2) (L : Nat) (hL : L = (vec (encs 0 ls) xs).length) :
    Calls Try.prog 18 #[.pointer (some ⟨B, 0, none⟩), .slice a n c] w fun e w' => e = .returned (.int .u32 (L : Int)) ∧ Bx w0 w' B N0 0 K (vec (encs 0 ls) xs) { s with ma := mx s.ma 4 } := by
  have hE := Cnt.encs_length 0 ls
  have h4 := padOf_lt 4 (xs.length + (encs 0 ls).length) (by omega)
  exact writeCounts w0 w B N0 r n c (padOf 4 (xs.length + (encs 0 ls).length)) L (encs 0 ls).length a K ls xs s h hf hs hl hn hb hc rfl rfl (by omega) (by rw [hL, vec_length])
end
theorem keysX_le {w : World} {fs : List Fld} {m : Nat} (h : ∀ f ∈ fs, FldOk w f) : (vec (cat fs) []).length ≤ total fs + 7 ∧ (keysX fs m).length ≤ total fs + 2 * m + 14 ∧ (vec (cat fs) []).length ≤ (keysX fs m).length := by
  have h1 := cat_length h
  have h2 := padOf_lt 4 (([] : List Nat).length + (cat fs).length) (by omega)
  have h3 := padOf_lt 4 ((vec (cat fs) []).length + 2 * (m - 1)) (by omega)
  have h4 : ([] : List Nat).length = 0 := rfl
  have e1 := vec_length (cat fs) []
  have e2 := offv_length fs m (vec (cat fs) [])
  unfold keysX
  omega
theorem valsX_le {w : World} {fs gs : List Fld} {m : Nat} (h : ∀ f ∈ fs, FldOk w f) (h' : ∀ f ∈ gs, FldOk w f) : (valsX fs gs m).length ≤ total fs + total gs + 2 * m + 21 ∧ (keysX fs m).length ≤ (valsX fs gs m).length := by
  have h1 := cat_length h'
  have h2 := padOf_lt 4 ((keysX fs m).length + (cat gs).length) (by omega)
  have h3 := keysX_le (m := m) h
  have e1 := vec_length (cat gs) (keysX fs m)
  unfold valsX
  omega
theorem leafX_le {w : World} {fs gs : List Fld} {m : Nat} (h : ∀ f ∈ fs, FldOk w f) (h' : ∀ f ∈ gs, FldOk w f) : (leafX fs gs m).length ≤ total fs + total gs + 4 * m + 28 ∧ (valsX fs gs m).length ≤ (leafX fs gs m).length := by
  have h2 := padOf_lt 4 ((valsX fs gs m).length + 2 * (m - 1)) (by omega)
  have h3 := valsX_le (m := m) h h'
  have e1 := offv_length gs m (valsX fs gs m)
  unfold leafX
  omega
theorem innX_le {w : World} {fs gs : List Fld} {ls : List Nat} {m : Nat} (h : ∀ f ∈ fs, FldOk w f) (h' : ∀ f ∈ gs, FldOk w f) : (innX fs gs ls m).length ≤ total fs + total gs + 2 * m + 10 * ls.length + 28 ∧ (valsX fs gs m).length ≤ (innX fs gs ls m).length := by
  have h1 := Cnt.encs_length 0 ls
  have h2 := padOf_lt 4 ((valsX fs gs m).length + (encs 0 ls).length) (by omega)
  have h3 := valsX_le (m := m) h h'
  have e1 := vec_length (encs 0 ls) (valsX fs gs m)
  unfold innX
  omega
end Go.Proofs.Ytegohkgmamnkdaa.Msg
