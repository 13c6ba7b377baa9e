/- The bytes of rows written as one vector, walked. Condition: the builder grows once at most. -/
import Derived.Test.YtegohkgmamnkdaaGreatBld8
set_option linter.unusedVariables false
namespace Go.Proofs.YtegohkgmamnkdaaGreat.Msg
open Go.ChangeShapes Go.WideShapes Go.ChangeAt Go.RowKit
open Go.Proofs.YtegohkgmamnkdaaGreat.Dig Go.Proofs.YtegohkgmamnkdaaGreat.Mem Go.Proofs.YtegohkgmamnkdaaGreat.Rb

/-- The builder in the middle of the copying: its block as it was, the rows so far behind Z1. -/
structure Mid (w1 wr : World) (B g N C H n d : Nat) (Z1 D xs : List Nat) (s : St) : Prop where
  row : wr.heap[B]? = some (.cells (s.cells g N C H) 95 (0, 0))
  wr_ : Wr [g] w1 wr
  buf : ∃ R : List Nat, R.length = n - d ∧ (∀ x ∈ R, x < 256) ∧ Blk wr g C (Z1 ++ (D ++ (R ++ xs)))

theorem put_mid (A f R xs : List Nat) (o : Nat) (ho : o = A.length) (h : f.length ≤ R.length) : put (A ++ (R ++ xs)) o f = (A ++ f) ++ (R.drop f.length ++ xs) := by
  obtain ⟨R1, R2, hR, hl⟩ : ∃ R1 R2, R = R1 ++ R2 ∧ R1.length = f.length := ⟨R.take f.length, R.drop f.length, (List.take_append_drop _ _).symm, by rw [List.length_take]; omega⟩
  subst hR
  rw [List.append_assoc R1, put_at A R1 (R2 ++ xs) f o ho.symm hl, ← hl, List.drop_left, List.append_assoc]

theorem cutA_at (g C o : Nat) (h : o < C) : cutA (some ⟨g, 0, none⟩) C o = some ⟨g, o, none⟩ := by
  unfold cutA
  rw [if_neg (by omega)]
  simp only [Option.map_some, Addr.add]
  by_cases h0 : o = 0
  · simp [h0]
  · simp [h0]
theorem cutA_block (g C o b p : Nat) (h : cutA (some ⟨g, 0, none⟩) C o = some ⟨b, p, none⟩) : b = g := by
  unfold cutA at h
  split at h
  · injection h with h; injection h with h1 h2; exact h1.symm
  · simp only [Option.map_some, Addr.add] at h
    split at h
    · injection h with h; injection h with h1 h2; exact h1.symm
    · injection h with h; injection h with h1 h2; exact h1.symm
theorem rb_of_blk {w : World} {g C o n c : Nat} {A ys R : List Nat} (h : Blk w g C (A ++ (ys ++ R))) (ho : o = A.length) (hn : ys.length = n) (hc : n ≤ c) (hm : c ≤ maxLen) (hy : ∀ y ∈ ys, y < 256) : RB w (cutA (some ⟨g, 0, none⟩) C o) n c ys := by
  have hh := h
  obtain ⟨rs, hl, _⟩ := hh
  have hlt : 0 < n → o < C := fun h0 => by simp only [List.length_append] at hl; omega
  refine ⟨hn, hc, hm, hy, fun h0 => ⟨g, o, cutA_at g C o (hlt h0), fun i hi => ?_⟩⟩
  rw [Blk.cell h (i := o + i) (by simp only [List.length_append]; omega)]
  subst ho
  simp only [List.getD_eq_getElem?_getD]
  rw [List.getElem?_append_right (by omega), Nat.add_sub_cancel_left, List.getElem?_append_left hi]

set_option maxRecDepth 100000 in
set_option maxHeartbeats 2000000 in
theorem writeItems (w0 w : World) (B N0 r n m c P L : Nat) (a : Option Addr) (K : List (Nat × Obj)) (fs : List Fld) (xs : List Nat) (s : St) (h : Bx w0 w B N0 r K xs s) (hf : Fine N0 s) (hs : s.ne = false) (hfs : Flds w0 a m c fs) (hm : m ≤ 200) (hn : n = total fs) (hnb : n ≤ 20010)
    (hP : P = padOf 4 (xs.length + n)) (hfit : xs.length + P + 4 + n < N0 * 2) (hL : L = P + xs.length + n + 4) :
    Calls Tryz.prog 21 #[.pointer (some ⟨B, 0, none⟩), .slice a m c, .int .i64 (n : Int)] w fun e w' => e = .returned (.int .u32 (L : Int)) ∧ Bx w0 w' B N0 0 K (le 4 n ++ (cat fs ++ (List.replicate P 0 ++ xs))) { s with ma := mx s.ma 4 } := by
  have K1 := Lib.hid (prepI w0 w B N0 r (n + 5) 4 n P K xs s h hf (by decide) (by omega) hP hfit (by omega) 4 n rfl rfl)
  obtain ⟨t, ht⟩ : ∃ t : St, t = { s with ma := mx s.ma 4 } := ⟨_, rfl⟩
  obtain ⟨xs2, hx2⟩ : ∃ xs2, xs2 = List.replicate P 0 ++ xs := ⟨_, rfl⟩
  rw [← ht] at K1 ⊢
  rw [← hx2] at K1 ⊢
  have htm : 4 ≤ t.ma := by rw [ht]; unfold mx; simp only; split <;> omega
  have htn : t.ne = false := by rw [ht]; exact hs
  have hal : padOf 4 (xs2.length + n) = 0 := by rw [hx2, List.length_append, List.length_replicate, hP]; unfold padOf; omega
  have hx2l : xs2.length = P + xs.length := by rw [hx2, List.length_append, List.length_replicate]
  have hN0 := hf.1
  have FS := Lib.hid hfs
  have HNN := Lib.hid hn
  have HTM := Lib.hid htm
  have HTN := Lib.hid htn
  have HAL := Lib.hid hal
  have HLX := Lib.hid (show L = xs2.length + n + 4 by omega)
  have hmc := hfs.le
  have hmt := hfs.top
  unfold maxLen at hmt
  clear h hf hs hfs hn hP hfit hL ht hx2 htm htn hal hx2l
  go_enter Tryz.func21, Tryz.ntmps21
  go_wp2_with (first
    | (go_at_call 66; (with_reducible refine K1.out.mono ?_); rintro e w1 ⟨rfl, h1⟩; obtain ⟨g, N, C, H, hx⟩ := h1; have HX := Lib.hid hx; have bH : H ≤ 200000 := (by have := hx.nn; have := hx.bd.len; omega); have hnH : n + 5 ≤ H := hx.room; obtain ⟨S0, hS0⟩ : ∃ S0, S0 = H - n := ⟨_, rfl⟩; have s1 : (H : Int) - (n : Int) = (S0 : Int) := (by omega); have HS0 := Lib.hid hS0; clear hx hS0)
    | (go_at_call 67; (with_reducible refine (head _ B g N C H xs2 t HX.out.bd).mono ?_); rintro e w2 ⟨rfl, rfl⟩))
  obtain ⟨Z, hz⟩ := HX.out.bd
  obtain ⟨Z1, Z2, hZ, l1, l2⟩ := take_split Z S0 n (by rw [hz.hZ, HS0.out]; omega)
  subst hZ
  have HZ := Lib.hid hz
  have HL1 := Lib.hid l1
  have M0 : Mid w1 w1 B g N C H n 0 Z1 [] xs2 t := ⟨hz.row, Wr.refl _ _, Z2, by omega, fun x hx => hz.zb x (List.mem_append_right _ hx), by have := hz.buf; rw [List.append_assoc] at this; exact this⟩
  clear hz l2
  go_loopw [8, 22] (fun sv iv wr => ∃ k d : Nat, k ≤ m ∧ iv = .int .i64 (k : Int) ∧ sv = .int .i64 ((S0 + d : Nat) : Int) ∧ d = total (fs.take k) ∧ Mid w1 wr B g N C H n d Z1 (cat (fs.take k)) xs2 t) (fun _ iv _ => m - (intOf iv).toNat)
  case atStart => exact ⟨0, 0, by omega, rfl, by rw [Nat.add_zero], rfl, M0⟩
  case round =>
    obtain ⟨k, d, hk, rfl, rfl, hd, hmid⟩ := hrel
    obtain ⟨S, hS⟩ : ∃ S, S = S0 + d := ⟨_, rfl⟩
    rw [← hS]
    have hdn : d ≤ n := by rw [hd, HNN.out]; exact total_take_le fs k
    have hrow := hmid.row
    have c0 : wr.cell? ⟨B, 0, none⟩ = some (.slice (some ⟨g, 0, none⟩) N C) := by simp only [World.cell?, hrow]; rfl
    have hbel : Below w0.heap.size w0 wr := HX.out.bel.trans (hmid.wr_.below (by simpa using HX.out.hg) HX.out.bel.size)
    have HBL := Lib.hid hbel
    have HM := Lib.hid hmid
    have HD := Lib.hid hd
    have HS := Lib.hid hS
    clear hmid hd hS hrow hbel
    by_cases hlt : k < m
    · obtain ⟨b, o, ea, hb2, hcell⟩ := FS.out.at_ (by omega)
      subst ea
      obtain ⟨f, hf⟩ : ∃ f, f = fs.getD k nof := ⟨_, rfl⟩
      have gx : wr.cell? ⟨b, o + k, none⟩ = some (.slice f.a f.n f.c) := by
        have := (HBL.out.cell (p := ⟨b, o + k, none⟩) hb2).trans (hcell k hlt)
        rw [← hf] at this; exact this
      have hkl : k < fs.length := by rw [FS.out.len]; exact hlt
      have hok := FS.out.ok f (by rw [hf]; exact getD_mem hkl)
      have RF := Lib.hid (hok.1.below HBL.out (Nat.le_refl _))
      have hfn : d + f.n ≤ n := by rw [HD.out, HNN.out, hf]; exact total_next hkl
      have hfl := RF.out.len
      obtain ⟨S2, hS2⟩ : ∃ S2, S2 = S + f.n := ⟨_, rfl⟩
      have e2 : (S : Int) + (f.n : Int) = (S2 : Int) := by omega
      have hSH : S + (n - d) = H := by have := HS.out; have := HS0.out; omega
      have C1 := cutLH (k := .i64) (k' := .i64) (some ⟨g, 0, none⟩) N C S H (n - d) (by omega) (by have := HX.out.bd.len; omega) (by omega)
      obtain ⟨R, hRl, hRb, hblk⟩ := HM.out.buf
      have BLK := Lib.hid hblk
      have bS : S ≤ 200000 := by omega
      have bS2 : S2 ≤ 400000 := by omega
      have K1 := Lib.hid (show f.n = Nat.min f.n (n - d) from (Nat.min_eq_left (by omega)).symm)
      have HF := Lib.hid hf
      have HS2 := Lib.hid hS2
      have hCS : 0 < f.n → S < C := fun h0 => by have := HX.out.bd.len; omega
      have HCS := Lib.hid hCS
      have HOL := Lib.hid (show S = (Z1 ++ cat (fs.take k)).length by
        rw [List.length_append, HL1.out, cat_length (fun f hf => FS.out.ok f (List.mem_of_mem_take hf)), ← HD.out]; exact HS.out)
      have HRL := Lib.hid hRl
      have HSH := Lib.hid hSH
      clear hcell hf hok hblk hS2 hCS hRl hSH hkl
      go_wp2_with (first
        | (with_reducible refine copy_blk BLK rfl (.tmp 32) (.tmp 33) 26 26 rfl 5 Tryz.underlying26 size5 (cutA (some ⟨g, 0, none⟩) C S) (n - d) (C - S) rfl f.a f.n f.c rfl RF f.n K1.out (off := S) (fun h0 => cutA_at g C S (HCS.out h0)) (by have := HOL.out; simp only [List.length_append] at *; have := HRL.out; omega) ?_; intro w5 B5 W5))
      go_roundw
      case rel =>
        have hkl : k < fs.length := by rw [FS.out.len]; exact hlt
        refine ⟨k + 1, d + f.n, by omega, by go_num, ?_, ?_, ?_, ?_, R.drop f.n, ?_, fun x hx => hRb x (List.mem_of_mem_drop hx), ?_⟩
        · have := HS2.out; have := HS.out
          go_num
        · rw [take_more hkl, total_append, ← HF.out, ← HD.out]; simp [total]
        · exact (W5.out.block B (lt_of_obj HM.out.row) (by simpa using HZ.out.hne)).trans HM.out.row
        · exact HM.out.wr_.trans W5.out
        · rw [List.length_drop]; have := HRL.out; omega
        · have b5 := B5.out
          rw [show f.xs.take f.n = f.xs from List.take_of_length_le (by omega), ← List.append_assoc Z1, put_mid _ _ _ _ _ HOL.out (by have := HRL.out; omega)] at b5
          rw [take_more hkl, cat_append, ← HF.out]
          simp only [cat, List.append_nil, List.append_assoc] at b5 ⊢
          rw [hfl] at b5
          exact b5
      case measure => simp [intOf]; omega
    · obtain rfl : k = m := by omega
      have hfull : fs.take k = fs := List.take_of_length_le (by rw [FS.out.len]; exact Nat.le_refl _)
      have hdn' : d = n := by rw [HD.out, hfull, HNN.out]
      obtain ⟨R, hRl, hRb, hblk⟩ := HM.out.buf
      obtain rfl : R = [] := List.length_eq_zero_iff.1 (by omega)
      rw [hfull, List.nil_append] at hblk
      have hcl : (cat fs).length = n := by rw [cat_length FS.out.ok, HNN.out]
      have hcb := cat_byte FS.out.ok
      have hlen := HX.out.bd.len
      have hZ1 := HL1.out
      have hS0 := HS0.out
      have X : BxG w0 wr B N0 (n + 4) K xs2 t g N C H := (HX.out.less (r' := n + 4) (by omega)).step ⟨Z1 ++ cat fs, HM.out.row, by rw [List.append_assoc]; exact hblk, by rw [List.length_append, hcl]; omega, hlen.1, hlen.2.1, HZ.out.hne, HZ.out.byte, fun x hx => by
        rcases List.mem_append.1 hx with hx | hx
        · exact HZ.out.zb x (List.mem_append_left _ hx)
        · exact hcb x hx, HZ.out.top, HZ.out.cm⟩ (HM.out.wr_.more (by simp)) (by omega)
      obtain ⟨h2, w2⟩ := X.bd.set 6 (.bool true) { t with ne := true } rfl
      have hp : Calls Tryz.prog 66 #[.pointer (some ⟨B, 0, none⟩), .int .i64 4, .int .i64 (n : Int)] (wr.setCell ⟨B, 6, none⟩ (.bool true)) fun e w' => e = .returned (.tuple #[]) ∧ Bx w0 w' B N0 (n + 4) K xs2 { t with ne := true } ∧ RB w' (cutA (some ⟨g, 0, none⟩) C S0) n (C - S0) (cat fs) :=
        (prepNoop _ B g N C H n xs2 { t with ne := true } h2 (by have := X.nn; omega) (by omega) HTM.out HAL.out (by omega)).mono fun e w' ⟨he, m', hm'⟩ => by
          subst hm'
          refine ⟨he, ⟨g, N, C, H, (X.step h2 w2 X.room).drewN m'⟩, rb_of_blk ((hblk.other HZ.out.hne).later (S := []) ((Wr.refl _ _).drewN m') (by simp)) hZ1.symm hcl (by omega) (Nat.le_trans (Nat.sub_le _ _) HZ.out.cm) hcb⟩
      have KC := Lib.hid (createBV w0 wr B N0 (n + 4) n (C - S0) L (cutA (some ⟨g, 0, none⟩) C S0) K xs2 xs2 (cat fs) t { t with ne := true } ⟨g, N, C, H, X⟩ HTN.out rfl hN0 hp (fun b o e => by rw [cutA_block g C S0 b o e]; exact Ne.symm HZ.out.hne) HLX.out (by omega) hcb)
      have C1 := cutLH (k := .i64) (k' := .i64) (some ⟨g, 0, none⟩) N C S0 H n (by omega) (by omega) (by omega)
      have ET := Lib.hid (show ({ t with ne := false } : St) = t by have := HTN.out; cases t; simp_all)
      have bS0 : S0 ≤ 200000 := by omega
      clear hfull hRl hRb hblk hcl hcb hlen hZ1 hS0 X h2 w2 hp M0 l1
      go_wp2_with (go_at_call 68; (with_reducible refine KC.out.mono ?_); rintro e w6 ⟨rfl, h6⟩; have H6 := Lib.hid h6; clear h6)
      go_ret
      refine ⟨rfl, ?_⟩
      have := H6.out
      rw [show ({ ({ t with ne := true } : St) with ne := false } : St) = { t with ne := false } from rfl, ET.out] at this
      exact this
end Go.Proofs.YtegohkgmamnkdaaGreat.Msg
