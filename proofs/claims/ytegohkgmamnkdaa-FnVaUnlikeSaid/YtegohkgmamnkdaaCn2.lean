/- The numbers of subtrees as bytes, walked. Condition: at most 300 numbers. -/
import Derived.Test.YtegohkgmamnkdaaCn1
import Derived.Deep.OwnRows
import Derived.Laws.OwnMore
set_option linter.unusedVariables false
namespace Go.Proofs.Ytegohkgmamnkdaa.Cnt
open Go.ChangeShapes Go.WideShapes Go.ChangeAt Go.RowKit
open Go.Proofs.Ytegohkgmamnkdaa.Dig Go.Proofs.Ytegohkgmamnkdaa.Mem Go.Proofs.Ytegohkgmamnkdaa.Rb Go.Proofs.Ytegohkgmamnkdaa.Var

theorem addr_add (g lo : Nat) : (⟨g, 0, none⟩ : Addr).add lo = ⟨g, lo, none⟩ := by
  unfold Addr.add
  by_cases h : lo = 0
  · subst h; rfl
  · simp [h]
theorem cutL (g N lo k : Nat) (h : lo < N) (hk : N - lo = k) : ∀ w, (Instr.slice 27 (.slice (some ⟨g, 0, none⟩) N N) (some (.int .i64 (lo : Int))) none none).run Try.prog w = .ok (.slice (some ⟨g, lo, none⟩) k k) w := fun w => by
  have he : Try.prog.underlying 27 = some (.slice (Try.prog.elem 27)) := by rw [Msg.el26]; exact Try.underlying27
  have hs : (sizeOf (Try.prog.elem 27)).run Try.prog w = .ok 1 w := by rw [Msg.el26]; exact Msg.u8size w
  rw [run_slice_l w 27 (some ⟨g, 0, none⟩) N N he .i64 (lo : Int) (by omega) (by omega), hs]
  subst hk
  simp [Result.andThen, sliced, addr_add, show ¬ N = lo by omega]
theorem wrap_sub (x p : Nat) : Go.RowKit.wrap64 (Go.RowKit.wrap64 (x : Int) - Go.RowKit.wrap64 (p : Int)) = sd x p := by
  unfold sd wrap64
  rw [IntKind.wrap_i64]; omega

set_option maxRecDepth 100000 in
set_option maxHeartbeats 1000000 in
theorem encodeDeltas (w0 w : World) (g N : Nat) (a : Option Addr) (n c : Nat) (ls : List Nat) (hl : ls.length = n) (hn : n ≤ 300) (hb : ∀ x ∈ ls, x < 18446744073709551616) (hc : Nums64 w0 a ls) (hN : N = (n + 1) * 10)
    (hO : Own w0 w g (List.replicate N 0)) :
    Calls Try.prog 59 #[.slice a n c, .slice (some ⟨g, 0, none⟩) N N] w fun e w' => ∃ m, e = .returned (.slice (some ⟨g, 0, none⟩) m N) ∧ m ≤ N ∧ m = (encs 0 ls).length ∧ Own w0 w' g (encs 0 ls ++ List.replicate (N - m) 0) := by
  have HL := Lib.hid hl
  have HB := Lib.hid hb
  have HC := Lib.hid hc
  have HO := Lib.hid hO
  clear hl hb hc hO
  have hNb : N ≤ 3010 := by omega
  have z0 : Go.RowKit.wrap64 0 = 0 := by simp [Go.RowKit.wrap64]
  have HN := Lib.hid hN
  have Z0 := Lib.hid z0
  clear hN z0
  go_enter Try.func59, Try.ntmps59
  go_wp2_with fail
  go_loopw [5, 6, 13] (fun pv lv iv wr => ∃ k pos : Nat, ∃ q : Int, k ≤ n ∧ iv = .int .i64 k ∧ pv = .int .i64 (pos : Int) ∧ lv = .int .i64 q ∧ q = Go.RowKit.wrap64 ((lastOf 0 (ls.take k) : Nat) : Int) ∧ pos = (encs 0 (ls.take k)).length ∧ Own w0 wr g (encs 0 (ls.take k) ++ List.replicate (N - pos) 0)) (fun _ _ iv _ => n - (intOf iv).toNat)
  case atStart => exact ⟨0, 0, 0, by omega, rfl, rfl, rfl, by rw [List.take_zero]; exact Z0.out.symm, rfl, by simpa [encs] using HO.out⟩
  case round =>
    obtain ⟨k, pos, q, hk, rfl, rfl, rfl, hq, hpos, hown⟩ := hrel
    have hpl : lastOf 0 (ls.take k) < 18446744073709551616 := lastOf_lt _ _ (by omega) (fun x hx => HB.out x (List.mem_of_mem_take hx))
    have hp10 : pos ≤ 10 * k := by
      have h2 := encs_length 0 (ls.take k)
      rw [List.length_take] at h2
      omega
    have HQ := Lib.hid hq
    have HPOS := Lib.hid hpos
    have HOWN := Lib.hid hown
    have hbel := hown.bel
    clear hq hpos hown
    by_cases hlt : k < n
    · obtain ⟨b, o, ea, hb2, hcell⟩ := HC.out (by rw [HL.out]; omega)
      subst ea
      obtain ⟨x, hx⟩ : ∃ x, x = ls.getD k 0 := ⟨_, rfl⟩
      have gx : wr.cell? ⟨b, o + k, none⟩ = some (.int .u64 (x : Int)) := by rw [hx]; exact (hbel.cell (p := ⟨b, o + k, none⟩) hb2).trans (hcell k (by rw [HL.out]; exact hlt))
      have hx64 : x < 18446744073709551616 := by rw [hx]; exact getD_lt HB.out (by rw [HL.out]; exact hlt)
      have HX := Lib.hid hx
      clear hx hcell hbel
      obtain ⟨D, hD⟩ : ∃ D, D = sd x (lastOf 0 (ls.take k)) := ⟨_, rfl⟩
      have hsd : Go.RowKit.wrap64 (Go.RowKit.wrap64 (x : Int) - q) = D := by rw [hD, HQ.out]; exact wrap_sub _ _
      have hNk : pos + 10 ≤ N := by have := HN.out; omega
      have hcut := cutL g N pos (N - pos) (by omega) rfl
      have K76 : Calls Try.prog 68 #[.slice (some ⟨g, pos, none⟩) (N - pos) (N - pos), .int .i64 (Go.RowKit.wrap64 (Go.RowKit.wrap64 (x : Int) - q))] wr fun e w' => e = .returned (.int .i64 (((enc D).length : Nat) : Int)) ∧ Own w0 w' g (encs 0 (ls.take k) ++ enc D ++ List.replicate (N - pos - (enc D).length) 0) := by
        rw [hsd]; exact putVarint w0 wr g pos (N - pos) D _ HOWN.out HPOS.out (by omega) (by omega) (by rw [hD]; exact sd_i64 _ _)
      have hE10 : (enc D).length ≤ 10 := uv_le 9 _
      obtain ⟨E, hE⟩ : ∃ E, E = (enc D).length := ⟨_, rfl⟩
      rw [← hE] at K76 hE10
      have K76 := Lib.hid K76
      have HD := Lib.hid hD
      have HE := Lib.hid hE
      clear hD hE hsd
      go_wp2_with (go_at_call 68; (with_reducible refine K76.out.mono ?_); rintro e w1 ⟨rfl, hO1⟩; have O1 := Lib.hid hO1; clear hO1)
      go_roundw
      case rel =>
        refine ⟨k + 1, pos + E, Go.RowKit.wrap64 (x : Int), by omega, by go_num, by go_num, rfl, ?_, ?_, ?_⟩
        · rw [take_more (by rw [HL.out]; exact hlt), lastOf_snoc, ← HX.out]
        · rw [take_more (by rw [HL.out]; exact hlt), encs_snoc, List.length_append, ← HX.out, ← HD.out, ← HE.out, HPOS.out]
        · rw [take_more (by rw [HL.out]; exact hlt), encs_snoc, ← HX.out, ← HD.out, Nat.sub_add_eq]
          exact O1.out
      case measure => simp [intOf]; omega
    · obtain rfl : k = n := by omega
      have hp := HPOS.out
      have hown := HOWN.out
      rw [List.take_of_length_le (by rw [HL.out]; exact Nat.le_refl _)] at hp hown
      have hpN : pos ≤ N := by have := HN.out; omega
      have HP2 := Lib.hid hp
      have HO2 := Lib.hid hown
      clear hp hown
      go_wp2_with fail
      go_ret
      exact ⟨pos, rfl, hpN, HP2.out, HO2.out⟩

theorem encodeVarints (w0 w : World) (g N : Nat) (a : Option Addr) (n c : Nat) (ls : List Nat) (hl : ls.length = n) (hn : n ≤ 300) (hb : ∀ x ∈ ls, x < 18446744073709551616) (hc : Nums64 w0 a ls) (hN : N = (n + 1) * 10)
    (hO : Own w0 w g (List.replicate N 0)) :
    Calls Try.prog 43 #[.slice a n c, .slice (some ⟨g, 0, none⟩) N N] w fun e w' => ∃ m, e = .returned (.slice (some ⟨g, 0, none⟩) m N) ∧ m ≤ N ∧ m = (encs 0 ls).length ∧ Own w0 w' g (encs 0 ls ++ List.replicate (N - m) 0) := by
  have K := Lib.hid (encodeDeltas w0 w g N a n c ls hl hn hb hc hN hO)
  clear hl hn hb hc hN hO
  go_enter Try.func43, Try.ntmps43
  go_wp2_with (go_at_call 59; (with_reducible refine K.out.mono ?_); rintro e w1 ⟨m, rfl, h1, h2, h3⟩; have H2 := Lib.hid h2; have H3 := Lib.hid h3; clear h2 h3)
  go_ret
  exact ⟨m, rfl, h1, H2.out, H3.out⟩

theorem maxSize (w : World) (n N : Nat) (hN : N = (n + 1) * 10) (hn : n ≤ 300) : Calls Try.prog 42 #[.int .i64 (n : Int)] w fun e w' => e = .returned (.int .i64 (N : Int)) ∧ w = w' := by
  have hs : ((n : Int) + 1) * 10 = (N : Int) := by omega
  clear hN
  go_enter Try.func42, Try.ntmps42
  go_wp2
  go_ret
  exact ⟨rfl, rfl⟩

theorem made_bs (n : Nat) : madeCells #[Value.int .u8 0] n = (bs (List.replicate n 0)).toArray := by
  apply Array.toList_inj.1
  rw [toList_madeCells_one]
  simp [bs]

theorem Own.rb {w0 w : World} {g m N r : Nat} {xs : List Nat} (h : Own w0 w g (xs ++ List.replicate r 0)) (hm : m = xs.length) (hN : m ≤ N) (hN2 : N ≤ 1000000) (bx : ∀ x ∈ xs, x < 256) : RB w (some ⟨g, 0, none⟩) m N xs := by
  subst hm
  refine ⟨rfl, hN, by unfold maxLen; omega, bx, fun _ => ⟨g, 0, rfl, fun i hi => ?_⟩⟩
  rw [Nat.zero_add, h.cell (by rw [List.length_append]; omega)]
  simp only [List.getD_eq_getElem?_getD, List.getElem?_append_left hi]

theorem Nums64.below {w w' : World} {a : Option Addr} {cs : List Nat} (h : Nums64 w a cs) (hb : Below w.heap.size w w') : Nums64 w' a cs := fun h0 => by
  obtain ⟨b, o, e, hlt, hc⟩ := h h0
  exact ⟨b, o, e, Nat.lt_of_lt_of_le hlt hb.size, fun i hi => (hb.cell (p := ⟨b, o + i, none⟩) hlt).trans (hc i hi)⟩

end Go.Proofs.Ytegohkgmamnkdaa.Cnt
