/- What a message tells, held against what it was made of: the laws' test walked. Condition: the bytes are a message. -/
import Derived.Test.YtegohkgmamnkdaaGreatRdO
import Derived.Test.YtegohkgmamnkdaaGreatVa
set_option linter.unusedVariables false
namespace Go.Proofs.YtegohkgmamnkdaaGreat.Msg
open Go.ChangeShapes Go.WideShapes Go.ChangeAt Go.RowKit
open Go.Proofs.YtegohkgmamnkdaaGreat.Dig Go.Proofs.YtegohkgmamnkdaaGreat.Mem Go.Proofs.YtegohkgmamnkdaaGreat.Rb
open Go.Proofs.YtegohkgmamnkdaaGreat.Cnt (encs enc Nums64 OwnU)

theorem Flr.below {w w' : World} {a : Option Addr} {n c : Nat} {fs : List Fld} (h : Flr w a n c fs) (hb : Below w.heap.size w w') : Flr w' a n c fs :=
  ⟨h.len, h.le, h.top, fun f hf => (h.ok f hf).below hb (Nat.le_refl _), fun hn => by
    obtain ⟨b, o, e, hlt, hc⟩ := h.at_ hn
    exact ⟨b, o, e, Nat.lt_of_lt_of_le hlt hb.size, fun i hi => (hb.cell (p := ⟨b, o + i, none⟩) hlt).trans (hc i hi)⟩⟩

set_option maxRecDepth 100000 in
set_option maxHeartbeats 2000000 in
theorem vaAllT (w : World) (a b : Option Addr) (m c c' : Nat) (fs gs : List Fld) (h : Flr w a m c fs) (h' : Flr w b m c' gs) (hm : m ≤ 200) (he : ∀ i, i < m → (fs.getD i nof).xs = (gs.getD i nof).xs) :
    Calls Tryz.prog 16 #[.slice a m c, .slice b m c'] w fun e w' => e = .returned (.bool true) ∧ ∃ k, w' = w.drewN k := by
  have hc1 := h.le
  have hc2 := h.top
  have hc3 := h'.le
  have hc4 := h'.top
  unfold maxLen at hc2 hc4
  have HF := Lib.hid h
  have HG := Lib.hid h'
  have HE := Lib.hid he
  clear h h' he
  go_enter Tryz.func16, Tryz.ntmps16
  go_wp2_with fail
  go_loopw [13] (fun iv wr => ∃ k q : Nat, k ≤ m ∧ iv = .int .i64 (k : Int) ∧ wr = w.drewN q) (fun iv _ => m - (intOf iv).toNat)
  case atStart => exact ⟨0, 0, by omega, rfl, rfl⟩
  case round =>
    obtain ⟨k, q, hk, rfl, rfl⟩ := hrel
    by_cases hlt : k < m
    · have hq : (k : Int) < (m : Int) := by omega
      have bk : k ≤ 200 := by omega
      obtain ⟨b1, o1, rfl, _, hc⟩ := HF.out.at_ (by omega)
      obtain ⟨b2, o2, rfl, _, hd⟩ := HG.out.at_ (by omega)
      obtain ⟨x0, n0, d0, hx⟩ : ∃ x n d, (fs.getD k nof).v = .slice x n d := ⟨_, _, _, rfl⟩
      obtain ⟨y0, n1, d1, hy⟩ : ∃ x n d, (gs.getD k nof).v = .slice x n d := ⟨_, _, _, rfl⟩
      have hxe : x0 = (fs.getD k nof).a ∧ n0 = (fs.getD k nof).n ∧ d0 = (fs.getD k nof).c := by unfold Fld.v at hx; injection hx with e1 e2 e3; exact ⟨e1.symm, e2.symm, e3.symm⟩
      have hye : y0 = (gs.getD k nof).a ∧ n1 = (gs.getD k nof).n ∧ d1 = (gs.getD k nof).c := by unfold Fld.v at hy; injection hy with e1 e2 e3; exact ⟨e1.symm, e2.symm, e3.symm⟩
      have hW : ∃ W, W = w.drewN q := ⟨_, rfl⟩
      obtain ⟨W, hW⟩ := hW
      have r1 : ∀ j, RB (W.drewN j) x0 n0 d0 (fs.getD k nof).xs := fun j => by
        obtain ⟨e1, e2, e3⟩ := hxe
        rw [hW, e1, e2, e3]; exact ((HF.out.drewN q).drewN j).ok _ (getD_mem (by rw [HF.out.len]; exact hlt))
      have r2 : ∀ j, RB (W.drewN j) y0 n1 d1 (fs.getD k nof).xs := fun j => by
        obtain ⟨e1, e2, e3⟩ := hye
        rw [hW, e1, e2, e3, HE.out k hlt]; exact ((HG.out.drewN q).drewN j).ok _ (getD_mem (by rw [HG.out.len]; exact hlt))
      have KV := fun j => quiet_left (vaSame (W.drewN j) x0 y0 n0 d0 n1 d1 _ _ (r1 j) (r2 j))
      simp only [beq_self_eq_true] at KV
      have K := Lib.hid KV
      have g1 : ∀ j, (W.drewN j).cell? ⟨b1, o1 + k, none⟩ = some (.slice x0 n0 d0) := fun j => by rw [← hx, hW]; exact hc k hlt
      have g2 : ∀ j, (W.drewN j).cell? ⟨b2, o2 + k, none⟩ = some (.slice y0 n1 d1) := fun j => by rw [← hy, hW]; exact hd k hlt
      rw [← hW]
      have HW := Lib.hid hW
      clear hW r1 r2 KV hx hy hxe hye hc hd
      go_wp2_with fail
      refine region_quiet_tail 9 (C := fun w' => ∃ m, w' = W.drewN m) (by kernel_rfl) (by kernel_rfl) ⟨1, rfl⟩ ?_
      simp only [List.take_succ_cons, List.take_zero, List.drop_succ_cons, List.drop_zero]
      iterate 9 go_big_quiet_step ((go_at_call 8; exact K.out _))
      refine wpQuiet_nil ?_
      rintro _ ⟨m9, rfl⟩
      go_wp2_with fail
      exact ⟨⟨k + 1, q + m9, by omega, by simp, by rw [HW.out, World.drewN_drewN]⟩, by simp [intOf]; omega⟩
    · obtain rfl : k = m := by omega
      go_wp2_with fail
      go_ret
      exact ⟨rfl, q, rfl⟩

theorem MsgOk.leaf {w : World} {m cnt ma : Nat} {fs gs : List Fld} {ls ys : List Nat} {r : Value} (h : MsgOk w m 0 cnt fs gs ls ma ys r) : ∃ a1 d1 a2 d2 a4 d4 fk fv hs, r = .agg #[.int .i64 0, .int .i64 (m : Int), .int .i64 (cnt : Int), .slice a1 m d1, .slice a2 m d2, .slice none 0 0, .slice a4 ma d4] ∧
    (Flr w a1 m d1 fk ∧ (∀ i, i < m → (fk.getD i nof).xs = (fs.getD i nof).xs) ∧ Flr w a2 m d2 fv ∧ (∀ i, i < m → (fv.getD i nof).xs = (gs.getD i nof).xs) ∧ Flr w a4 ma d4 hs ∧ (∀ i, i < ma → (hs.getD i nof).xs = chunk ys i)) := by
  obtain ⟨a1, d1, a2, d2, ss, a4, d4, fk, fv, hs, e, h1, h2, h3, h4, h5, h6, h7⟩ := h
  rcases h7 with ⟨_, rfl⟩ | ⟨h, _⟩
  · exact ⟨a1, d1, a2, d2, a4, d4, fk, fv, hs, e, h1, h2, h3, h4, h5, h6⟩
  · omega
theorem MsgOk.inn {w : World} {m lv cnt ma : Nat} {fs gs : List Fld} {ls ys : List Nat} {r : Value} (h : MsgOk w m lv cnt fs gs ls ma ys r) (h0 : 0 < lv) : ∃ a1 d1 a2 d2 q a4 d4 fk fv hs, r = .agg #[.int .i64 (lv : Int), .int .i64 (m : Int), .int .i64 (cnt : Int), .slice a1 m d1, .slice a2 m d2, .slice (some ⟨q, 0, none⟩) m m, .slice a4 ma d4] ∧
    (Flr w a1 m d1 fk ∧ (∀ i, i < m → (fk.getD i nof).xs = (fs.getD i nof).xs) ∧ Flr w a2 m d2 fv ∧ (∀ i, i < m → (fv.getD i nof).xs = (gs.getD i nof).xs) ∧ Flr w a4 ma d4 hs ∧ (∀ i, i < ma → (hs.getD i nof).xs = chunk ys i)) ∧ ∀ i, i < m → w.cell? ⟨q, i, none⟩ = some (.int .u64 ((ls.getD i 0 : Nat) : Int)) := by
  obtain ⟨a1, d1, a2, d2, ss, a4, d4, fk, fv, hs, e, h1, h2, h3, h4, h5, h6, h7⟩ := h
  rcases h7 with ⟨h, _⟩ | ⟨_, q, rfl, h7⟩
  · omega
  · exact ⟨a1, d1, a2, d2, q, a4, d4, fk, fv, hs, e, ⟨h1, h2, h3, h4, h5, h6⟩, h7⟩
end Go.Proofs.YtegohkgmamnkdaaGreat.Msg
