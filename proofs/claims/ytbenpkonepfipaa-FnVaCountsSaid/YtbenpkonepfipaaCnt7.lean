/- The numbers of subtrees read back, walked. Condition: that the bytes are those of such numbers. -/
import Derived.Test.YtbenpkonepfipaaCnt6
set_option linter.unusedVariables false
namespace Go.Proofs.Ytbenpkonepfipaa.Cnt
open Go.ChangeShapes Go.WideShapes Go.ChangeAt Go.RowKit
open Go.Proofs.Ytbenpkonepfipaa.Dig Go.Proofs.Ytbenpkonepfipaa.Mem Go.Proofs.Ytbenpkonepfipaa.Rb Go.Proofs.Ytbenpkonepfipaa.Var

def us (xs : List Nat) : List Value := xs.map fun (x : Nat) => Value.int .u64 (x : Int)
theorem us_get {xs : List Nat} {i : Nat} (h : i < xs.length) : (us xs)[i]? = some (.int .u64 ((xs.getD i 0 : Nat) : Int)) := by
  simp [us, List.getElem?_eq_getElem h]
structure OwnU (w0 w : World) (g : Nat) (xs : List Nat) : Prop where
  row : w.heap[g]? = some (.cells (us xs).toArray 47 (0, 0))
  bel : Below w0.heap.size w0 w
  hg : w0.heap.size ≤ g
theorem OwnU.cell {w0 w : World} {g i : Nat} {xs : List Nat} (h : OwnU w0 w g xs) (hi : i < xs.length) : w.cell? ⟨g, i, none⟩ = some (.int .u64 ((xs.getD i 0 : Nat) : Int)) := by
  simp only [World.cell?, h.row]
  simpa using us_get hi
theorem OwnU.frozen {w0 w : World} {g i : Nat} {xs : List Nat} (h : OwnU w0 w g xs) : w.frozen? ⟨g, i, none⟩ = false := by simp [World.frozen?, h.row]
theorem OwnU.set {w0 w : World} {g p r : Nat} {L : List Nat} (h : OwnU w0 w g (L ++ List.replicate (r + 1) 0)) (v : Nat) (hp : p = L.length) : OwnU w0 (w.setCell ⟨g, p, none⟩ (.int .u64 (v : Int))) g (L ++ [v] ++ List.replicate r 0) := by
  subst hp
  refine ⟨?_, h.bel.setCell h.hg _, h.hg⟩
  simp [World.setCell, Array.getElem?_modify, h.row, us, List.replicate_succ]

theorem cutA_l (a : Option Addr) (n c lo : Nat) (h : lo ≤ n) : ∀ w, (Instr.slice 27 (.slice a n c) (some (.int .i64 (lo : Int))) none none).run Try.prog w = .ok (.slice (cutA a c lo) (n - lo) (c - lo)) w := fun w => by
  have he : Try.prog.underlying 27 = some (.slice (Try.prog.elem 27)) := by rw [Sl.elem27]; exact Try.underlying27
  have hs : (sizeOf (Try.prog.elem 27)).run Try.prog w = .ok 1 w := by rw [Sl.elem27]; exact Sl.size1 w
  rw [run_slice_l w 27 a n c he .i64 (lo : Int) (by omega) (by omega), hs]
  simp [Result.andThen, sliced, cutA]

theorem assertTrue (w : World) : Calls Try.prog 78 #[.bool true] w fun e w' => e = .returned (.tuple #[]) ∧ w = w' := by
  go_enter Try.func78, Try.ntmps78
  go_wp2
  go_end0
  exact ⟨rfl, rfl⟩
theorem wrap_add (x p : Nat) : Go.RowKit.wrap64 (Go.RowKit.wrap64 (p : Int) + sd x p) = Go.RowKit.wrap64 (x : Int) := by
  unfold sd wrap64
  rw [IntKind.wrap_i64]; omega
theorem u64_back (x : Nat) (h : x < 18446744073709551616) : IntKind.u64.wrap (Go.RowKit.wrap64 (x : Int)) = (x : Int) := by
  rw [IntKind.wrap_u64]; unfold wrap64; omega

set_option maxRecDepth 100000 in
set_option maxHeartbeats 1000000 in
theorem decodeDeltas (w0 w : World) (g N : Nat) (a : Option Addr) (n c : Nat) (ls : List Nat) (hl : ls.length = N) (hN : N ≤ 300) (hn : n ≤ 100000) (hb : ∀ x ∈ ls, x < 18446744073709551616) (hr : RB w0 a n c (encs 0 ls))
    (hO : OwnU w0 w g (List.replicate N 0)) :
    Calls Try.prog 74 #[.slice a n c, .slice (some ⟨g, 0, none⟩) N N] w fun e w' => e = .returned (.slice (some ⟨g, 0, none⟩) N N) ∧ OwnU w0 w' g ls := by
  have HL := Lib.hid hl
  have HB := Lib.hid hb
  have HR := Lib.hid hr
  have HO := Lib.hid hO
  have z0 : Go.RowKit.wrap64 0 = 0 := by simp [Go.RowKit.wrap64]
  have Z0 := Lib.hid z0
  clear hl hb hr hO z0
  go_enter Try.func74, Try.ntmps74
  go_wp2_with fail
  go_loopw [0, 5, 12] (fun bv lv iv wr => ∃ k : Nat, ∃ q : Int, ∃ a' n' c', k ≤ N ∧ n' ≤ 100000 ∧ iv = .int .i64 k ∧ bv = .slice a' n' c' ∧ lv = .int .i64 q ∧ q = Go.RowKit.wrap64 ((lastOf 0 (ls.take k) : Nat) : Int) ∧ RB w0 a' n' c' (encs (lastOf 0 (ls.take k)) (ls.drop k)) ∧ OwnU w0 wr g (ls.take k ++ List.replicate (N - k) 0)) (fun _ _ iv _ => N - (intOf iv).toNat)
  case atStart => exact ⟨0, 0, a, n, c, by omega, hn, rfl, rfl, rfl, by rw [List.take_zero]; exact Z0.out.symm, by simpa [lastOf] using HR.out, by simpa using HO.out⟩
  case round =>
    obtain ⟨k, q, a', n', c', hk, hn', rfl, rfl, rfl, hq, hrb, hown⟩ := hrel
    have hle := hrb.le
    have htop := hrb.top
    unfold maxLen at htop
    by_cases hlt : k < N
    · obtain ⟨x, hx⟩ : ∃ x, x = ls.getD k 0 := ⟨_, rfl⟩
      have hx64 : x < 18446744073709551616 := by rw [hx]; exact getD_lt HB.out (by rw [HL.out]; exact hlt)
      obtain ⟨p, hp⟩ : ∃ p, p = lastOf 0 (ls.take k) := ⟨_, rfl⟩
      rw [← hp] at hq hrb
      have hdrop : ls.drop k = x :: ls.drop (k + 1) := by
        rw [List.drop_eq_getElem_cons (by rw [HL.out]; exact hlt), hx, List.getD_eq_getElem?_getD, List.getElem?_eq_getElem (by rw [HL.out]; exact hlt)]; rfl
      rw [hdrop] at hrb
      simp only [encs] at hrb
      obtain ⟨D, hD⟩ : ∃ D, D = sd x p := ⟨_, rfl⟩
      rw [← hD] at hrb
      obtain ⟨L, hL⟩ : ∃ L, L = (enc D).length := ⟨_, rfl⟩
      have hLn : L ≤ n' := by have := hrb.len; rw [List.length_append] at this; omega
      have K77 := Lib.hid (varintRead wr a' n' c' L D _ (hrb.below hown.bel (Nat.le_refl _)) (by rw [hD]; exact sd_i64 _ _) hL hn')
      have hcut := cutA_l a' n' c' L hLn
      have hrb2 := hrb.cut hLn (Nat.le_refl _)
      rw [hL, List.drop_left, List.take_of_length_le (by have := hrb.len; rw [List.length_append] at this; omega), ← hL] at hrb2
      have HR2 := Lib.hid hrb2
      have w1 : Go.RowKit.wrap64 (q + D) = Go.RowKit.wrap64 (x : Int) := by rw [hq, hD]; exact wrap_add _ _
      have hlen : (ls.take k).length = k := by rw [List.length_take, HL.out]; omega
      have gx := hown.cell (i := k) (by rw [List.length_append, hlen, List.length_replicate]; omega)
      obtain ⟨cc, hcc⟩ : ∃ cc, cc = (ls.take k ++ List.replicate (N - k) 0).getD k 0 := ⟨_, rfl⟩
      rw [← hcc] at gx
      have fx : wr.frozen? ⟨g, k, none⟩ = false := hown.frozen
      have w2 := u64_back x hx64
      have HOW := Lib.hid (show OwnU w0 (wr.setCell ⟨g, k, none⟩ (.int .u64 (x : Int))) g (ls.take (k + 1) ++ List.replicate (N - (k + 1)) 0) from by
        have h1 := hown
        rw [show N - k = (N - (k + 1)) + 1 by omega] at h1
        have := h1.set x hlen.symm
        rwa [take_more (by rw [HL.out]; exact hlt), ← hx])
      have HX := Lib.hid hx
      have HP := Lib.hid hp
      have W1 := Lib.hid w1
      clear hx hp hq hrb hdrop hD hL hrb2 hlen hcc hown
      go_wp2_with (go_at_call 77; (with_reducible refine K77.out.mono ?_); rintro e w3 ⟨rfl, rfl⟩)
      go_roundw
      case rel =>
        refine ⟨k + 1, Go.RowKit.wrap64 (q + D), cutA a' c' L, n' - L, c' - L, by omega, by omega, by go_num, rfl, rfl, ?_, ?_, HOW.out⟩
        · rw [take_more (by rw [HL.out]; exact hlt), lastOf_snoc, ← HX.out]; exact W1.out
        · rw [take_more (by rw [HL.out]; exact hlt), lastOf_snoc, ← HX.out]; exact HR2.out
      case measure => simp [intOf]; omega
    · obtain rfl : k = N := by omega
      have hlen := hrb.len
      rw [List.drop_of_length_le (by rw [HL.out]; exact Nat.le_refl _)] at hlen
      simp only [encs, List.length_nil] at hlen
      subst hlen
      rw [List.take_of_length_le (by rw [HL.out]; exact Nat.le_refl _), Nat.sub_self, List.replicate_zero, List.append_nil] at hown
      have HO2 := Lib.hid hown
      clear hown hq hrb
      go_wp2_with (go_at_call 78; (with_reducible refine (assertTrue _).mono ?_); rintro e w3 ⟨rfl, rfl⟩)
      go_ret
      exact ⟨rfl, HO2.out⟩

theorem decodeVarints (w0 w : World) (g N : Nat) (a : Option Addr) (n c : Nat) (ls : List Nat) (hl : ls.length = N) (hN : N ≤ 300) (hn : n ≤ 100000) (hb : ∀ x ∈ ls, x < 18446744073709551616) (hr : RB w0 a n c (encs 0 ls))
    (hO : OwnU w0 w g (List.replicate N 0)) :
    Calls Try.prog 68 #[.slice a n c, .slice (some ⟨g, 0, none⟩) N N] w fun e w' => e = .returned (.slice (some ⟨g, 0, none⟩) N N) ∧ OwnU w0 w' g ls := by
  have K := Lib.hid (decodeDeltas w0 w g N a n c ls hl hN hn hb hr hO)
  clear hl hN hn hb hr hO
  go_enter Try.func68, Try.ntmps68
  go_wp2_with (go_at_call 74; (with_reducible refine K.out.mono ?_); rintro e w1 ⟨rfl, h1⟩; have H1 := Lib.hid h1; clear h1)
  go_ret
  exact ⟨rfl, H1.out⟩

theorem info47 : (Try.prog.info? 47).map (fun i => (i.zero, i.size, i.bytes)) = some (some (.int .u64 0), 1, 8) := by kernel_rfl
theorem made_us (n : Nat) : madeCells #[Value.int .u64 0] n = (us (List.replicate n 0)).toArray := by
  apply Array.toList_inj.1
  rw [toList_madeCells_one]
  simp [us]

theorem doorDecode (w : World) (N : Nat) (a : Option Addr) (n c : Nat) (ls : List Nat) (hl : ls.length = N) (hN : N ≤ 300) (hn : n ≤ 100000) (hb : ∀ x ∈ ls, x < 18446744073709551616) (hr : RB w a n c (encs 0 ls)) :
    Calls Try.prog 50 #[.slice a n c, .int .i64 (N : Int)] w fun e w' => e = .returned (.slice (some ⟨w.heap.size, 0, none⟩) N N) ∧ OwnU w w' w.heap.size ls := by
  have T0 : OwnU w (w.alloc (.cells (us (List.replicate N 0)).toArray 47)) w.heap.size (List.replicate N 0) := ⟨heap_alloc_new _ _, (Below.refl _ _).alloc (Nat.le_refl _) _, Nat.le_refl _⟩
  have K := Lib.hid (decodeVarints w _ w.heap.size N a n c ls hl hN hn hb hr T0)
  obtain ⟨i47, hi, hz0, hz1, hz2⟩ := info_parts info47
  clear T0 hl hb hr
  go_enter Try.func50, Try.ntmps50
  go_wp2_with (first
    | (at_make; refine wpList_make_row _ rfl _ _ 42 rfl 47 i47 (.int .u64 0) Try.underlying42 hi hz0 hz1 rfl .i64 .i64 N rfl rfl (by rw [hz2]; omega) (by omega) ?_; rw [made_us])
    | (go_at_call 68; (with_reducible refine K.out.mono ?_); rintro e w1 ⟨rfl, h1⟩; have H1 := Lib.hid h1; clear h1))
  go_ret
  exact ⟨rfl, H1.out⟩

theorem idle49 (p q : Addr) (w : World) :
    CallsD Try.prog 49 #[.pointer (some p), .pointer (some q)] .returning w fun e u' w' => e = .returned (.tuple #[]) ∧ u' = .returning ∧ w' = w := by
  refine callsD_of_wpS Try.func49 rfl fun c₀ cs hu => ?_
  apply wpS_seq
  apply wpS_region
  simp [wpOpsS, go_sem, recoverD, hu, Try.ntmps49, Exit.thenS]
  refine wpS_cond (t := false) (by simp [Act.eval, Array.replicate]) ?_
  simp only [Bool.false_eq_true, if_false]
  refine wpS_of_wp (wp_skip ?_)
  cases c₀
  simp_all [bodyPostS, results, Try.results49]

theorem OwnU.other {w0 w : World} {g : Nat} {xs : List Nat} (h : OwnU w0 w g xs) (b : Nat) (v : Value) (hb : b ≠ g) (hw : w0.heap.size ≤ b) : OwnU w0 (w.setCell ⟨b, 0, none⟩ v) g xs :=
  ⟨by simpa [World.setCell, Array.getElem?_modify, hb] using h.row, h.bel.setCell hw _, h.hg⟩

theorem countsRead (w : World) (N : Nat) (a : Option Addr) (n c : Nat) (ls : List Nat) (hl : ls.length = N) (hN : N ≤ 300) (hn : n ≤ 100000) (hb : ∀ x ∈ ls, x < 18446744073709551616) (hr : RB w a n c (encs 0 ls)) :
    Calls Try.prog 23 #[.slice a n c, .int .i64 (N : Int)] w fun e w' => ∃ g, e = .returned (.tuple #[.slice (some ⟨g, 0, none⟩) N N, .bool true]) ∧ OwnU w w' g ls := by
  have hmf : ∀ (fn : Fn) (first cap : Array Value) (w : World), (Instr.makeFunc fn first cap).run Try.prog w = .ok (.func fn first cap) w := fun _ _ _ _ => rfl
  have hB : w.heap.size + 1 ≠ w.heap.size := by omega
  have T0 := Lib.hid (two_start w 42 4 (.slice none 0 0) (.bool false))
  have K := Lib.hid (doorDecode _ N a n c ls hl hN hn hb (hr.below T0.out.below (Nat.le_refl _)))
  clear hl hb hr
  go_enter_defers Try.func23, Try.ntmps23
  go_wp2_with (go_at_call 50; (with_reducible refine K.out.mono ?_); rintro e w1 ⟨rfl, h3⟩; have H3 := Lib.hid h3; clear h3; have T1 := Lib.hid (T0.out.later H3.out.bel); obtain ⟨c0, c1, f0, f1⟩ := T1.out.facts)
  have T2 := (T1.out.set0 (.slice (some ⟨w.heap.size + 1 + 1, 0, none⟩) N N)).set1 (.bool true)
  obtain ⟨g0, g1, _, _⟩ := T2.facts
  have hbel := T2.below
  have hrow : w1.heap[w.heap.size + 1 + 1]? = some (.cells (us ls).toArray 47 (0, 0)) := by
    have := H3.out.row
    simpa using this
  have h1 : OwnU w w1 (w.heap.size + 1 + 1) ls := ⟨hrow, T1.out.below, by omega⟩
  have hr2 := (h1.other w.heap.size (.slice (some ⟨w.heap.size + 1 + 1, 0, none⟩) N N) (by omega) (Nat.le_refl _)).other (w.heap.size + 1) (.bool true) (by omega) (by omega)
  refine leaves_cons (f := 49) (args := #[.pointer (some ⟨w.heap.size, 0, none⟩), .pointer (some ⟨w.heap.size + 1, 0, none⟩)]) (by simp) (by simp [go_sem]) ?_
  refine (idle49 _ _ _).mono ?_
  rintro e u' w'' ⟨rfl, rfl, rfl⟩
  simp only [Leaves, settle]
  refine ⟨.tuple #[.slice (some ⟨w.heap.size + 1 + 1, 0, none⟩) N N, .bool true], ?_, w.heap.size + 1 + 1, rfl, hr2⟩
  simp [results, Try.results23, go_sem, g0, g1]
end Go.Proofs.Ytbenpkonepfipaa.Cnt
