/- The numbers of subtrees written as a vector of bytes, walked; their sum. Condition: at most 200 of them, 2^40 each at most. -/
import Derived.Test.YtegohkgmamnkdaaGreatWr3
import Derived.Test.YtegohkgmamnkdaaGreatCn1
set_option linter.unusedVariables false
namespace Go.Proofs.YtegohkgmamnkdaaGreat.Msg
open Go.ChangeShapes Go.WideShapes Go.ChangeAt Go.RowKit
open Go.Proofs.YtegohkgmamnkdaaGreat.Dig Go.Proofs.YtegohkgmamnkdaaGreat.Mem Go.Proofs.YtegohkgmamnkdaaGreat.Rb
open Go.Proofs.YtegohkgmamnkdaaGreat.Cnt (encs enc Nums64 Own)

section
variable {w0 w w' : World} {B N0 r : Nat} {K : List (Nat × Obj)} {xs : List Nat} {s : St}
theorem Bx.later (h : Bx w0 w B N0 r K xs s) (hb : Below w.heap.size w w') : Bx w0 w' B N0 r K xs s := by
  obtain ⟨g, N, C, H, h⟩ := h
  have hw : Wr [] w w' := Wr.of_below hb
  exact ⟨g, N, C, H, h.step (h.bd.later hw (by simp) (by simp)) (hw.more (by simp)) h.room⟩
theorem Bx.add (h : Bx w0 w B N0 r K xs s) (hb : Below w.heap.size w w') (k : Nat) (o : Obj) (hk : w.heap.size ≤ k) (ho : w'.heap[k]? = some o) : Bx w0 w' B N0 r ((k, o) :: K) xs s := by
  obtain ⟨g, N, C, H, h⟩ := h
  have hw : Wr [] w w' := Wr.of_below hb
  have X := h.step (h.bd.later hw (by simp) (by simp)) (hw.more (by simp)) h.room
  obtain ⟨Z, hz⟩ := h.bd
  have h1 := hz.lt
  have h2 := hz.buf.lt
  have h3 := h.bel.size
  refine ⟨g, N, C, H, X.bd, X.nn, X.room, X.bel, X.hB, X.hg, fun p hp => ?_⟩
  rcases List.mem_cons.1 hp with rfl | hp
  · exact ⟨ho, by simp only; omega, by simp only; omega, by simp only; omega⟩
  · exact X.keep p hp

theorem mx4 (a : Nat) : 4 ≤ mx a 4 := by unfold mx; split <;> omega

/-- A vector of bytes out of another block. -/
theorem createA (P n c L k : Nat) (o : Obj) (ys : List Nat) (h : Bx w0 w B N0 r K xs s) (hf : Fine N0 s) (hs : s.ne = false) (hk : (k, o) ∈ K) (hsrc : ∀ w1 : World, w1.heap[k]? = some o → RB w1 (some ⟨k, 0, none⟩) n c ys)
    (hP : P = padOf 4 (xs.length + n)) (hfit : xs.length + P + 4 + n < N0 * 2) (hL : L = P + xs.length + n + 4) (hnb : n ≤ 100000) (hyb : ∀ y ∈ ys, y < 256) :
    Calls Tryz.prog 68 #[.pointer (some ⟨B, 0, none⟩), .slice (some ⟨k, 0, none⟩) n c] w fun e w' => e = .returned (.int .u32 (L : Int)) ∧ Bx w0 w' B N0 0 K (le 4 n ++ (ys ++ (List.replicate P 0 ++ xs))) { s with ma := mx s.ma 4 } := by
  have h2 := h.set 6 (.bool true) { s with ne := true } (fun _ _ _ _ => rfl)
  have hp := (prepI w0 _ B N0 r (n + 4) 4 n P K xs { s with ne := true } h2 hf (by decide) hnb hP hfit (by omega) 4 n rfl rfl).mono fun e w' ⟨he, hx⟩ => (⟨he, hx, hsrc w' (hx.keep _ hk).1⟩ : e = Ending.returned (.tuple #[]) ∧ Bx w0 w' B N0 (n + 4) K (List.replicate P 0 ++ xs) { s with ma := mx s.ma 4, ne := true } ∧ RB w' (some ⟨k, 0, none⟩) n c ys)
  have := createBV w0 w B N0 r n c L (some ⟨k, 0, none⟩) K xs (List.replicate P 0 ++ xs) ys s { s with ma := mx s.ma 4, ne := true } h hs rfl hf.1 hp (fun b o e => by
    injection e with e; injection e with e1 e2; subst e1; exact (h.keep _ hk).2.1) (by rw [List.length_append, List.length_replicate]; omega) hnb hyb
  refine this.mono fun e w' ⟨he, hx⟩ => ⟨he, ?_⟩
  have e1 : ({ s with ma := mx s.ma 4, ne := false } : St) = { s with ma := mx s.ma 4 } := by cases s; simp_all
  rw [← e1]
  exact hx
end

set_option maxRecDepth 100000 in
set_option maxHeartbeats 1000000 in
theorem writeCounts (w0 w : World) (B N0 r n c P L E : Nat) (a : Option Addr) (K : List (Nat × Obj)) (ls xs : List Nat) (s : St) (h : Bx w0 w B N0 r K xs s) (hf : Fine N0 s) (hs : s.ne = false) (hl : ls.length = n) (hn : n ≤ 200) (hb : ∀ x ∈ ls, x < 18446744073709551616) (hc : Nums64 w0 a ls)
    (hE : E = (encs 0 ls).length) (hP : P = padOf 4 (xs.length + E)) (hfit : xs.length + P + 4 + E < N0 * 2) (hL : L = P + xs.length + E + 4) :
    Calls Tryz.prog 24 #[.pointer (some ⟨B, 0, none⟩), .slice a n c] w fun e w' => e = .returned (.int .u32 (L : Int)) ∧ Bx w0 w' B N0 0 K (le 4 E ++ (encs 0 ls ++ (List.replicate P 0 ++ xs))) { s with ma := mx s.ma 4 } := by
  obtain ⟨N, hN⟩ : ∃ N, N = (n + 1) * 10 := ⟨_, rfl⟩
  have T0 : Own w (w.alloc (.cells (bs (List.replicate N 0)).toArray 5)) w.heap.size (List.replicate N 0) := ⟨heap_alloc_new _ _, (Below.refl _ _).alloc (Nat.le_refl _) _, Nat.le_refl _⟩
  have hcw : Nums64 w a ls := fun h0 => by
    obtain ⟨b, o, e, hlt, hcc⟩ := hc h0
    exact ⟨b, o, e, Nat.lt_of_lt_of_le hlt h.bel.size, fun i hi => (h.bel.cell (p := ⟨b, o + i, none⟩) hlt).trans (hcc i hi)⟩
  have K66 := Lib.hid (Cnt.encodeVarints w _ w.heap.size N a n c ls hl (by omega) hb hcw hN T0)
  have K67 := Lib.hid (Cnt.maxSize w n N hN (by omega))
  have hNb : N ≤ 3010 := by omega
  have hEN := Cnt.encs_length 0 ls
  have hEb : E ≤ 2000 := by omega
  obtain ⟨i5, hi, hz0, hz1, hz2⟩ := info_parts info5
  have HB := Lib.hid h
  have KC := Lib.hid fun (w3 : World) (hO : Own w w3 w.heap.size (encs 0 ls ++ List.replicate (N - E) 0)) =>
    (createA (K := (w.heap.size, .cells (bs (encs 0 ls ++ List.replicate (N - E) 0)).toArray 5 (0, 0)) :: K) P E N L w.heap.size _ (encs 0 ls) (h.add hO.bel w.heap.size _ (Nat.le_refl _) hO.row) hf hs (List.mem_cons_self ..) (fun w1 h1 =>
      by
        have hb1 : Blk w1 w.heap.size N ([] ++ (encs 0 ls ++ List.replicate (N - E) 0)) := ⟨[], by simp only [List.nil_append, List.length_append, List.length_replicate, List.length_nil]; omega, by rw [List.append_nil]; exact h1⟩
        have h2 := rb_of_blk (c := N) hb1 rfl hE.symm (by omega) (by unfold maxLen; omega) (Cnt.encs_byte _ _)
        rw [List.length_nil, cutA_at _ _ _ (by omega)] at h2
        exact h2) hP hfit hL (by omega) (Cnt.encs_byte _ _)).mono fun e w' ⟨he, hx⟩ => (⟨he, hx.drop fun p hp => List.mem_cons_of_mem _ hp⟩ : e = Ending.returned (.int .u32 (L : Int)) ∧ Bx w0 w' B N0 0 K (le 4 E ++ (encs 0 ls ++ (List.replicate P 0 ++ xs))) { s with ma := mx s.ma 4 })
  have HE := Lib.hid hE
  clear T0 hl hb hc hcw hN hP hfit hL h hf hs hEN hE
  go_enter Tryz.func24, Tryz.ntmps24
  go_wp2_with (first
    | (go_at_call 72; (with_reducible refine K67.out.mono ?_); rintro e w1 ⟨rfl, rfl⟩)
    | (at_make; refine wpList_make_row _ rfl _ _ 26 rfl 5 i5 (.int .u8 0) Tryz.underlying26 hi hz0 hz1 rfl .i64 .i64 N rfl rfl (by rw [hz2]; omega) (by omega) ?_; rw [made_bs])
    | (go_at_call 73; (with_reducible refine K66.out.mono ?_); rintro e w1 ⟨m, rfl, h1, h2, h3⟩; rw [← HE.out] at h2; subst h2; have H3 := Lib.hid h3; clear h3)
    | (go_at_call 68; (with_reducible refine (KC.out _ H3.out).mono ?_); rintro e w1 ⟨rfl, h1⟩; have H1 := Lib.hid h1; clear h1))
  go_ret
  exact ⟨rfl, H1.out⟩

/-- Numbers together, as the machine adds them. -/
def sumU : List Nat → Nat
  | [] => 0
  | x :: xs => x + sumU xs
theorem sumU_append : ∀ xs ys, sumU (xs ++ ys) = sumU xs + sumU ys
  | [], ys => by simp [sumU]
  | x :: xs, ys => by simp [sumU, sumU_append xs ys, Nat.add_assoc]
theorem sumU_le {M : Nat} : ∀ {xs : List Nat}, (∀ x ∈ xs, x ≤ M) → sumU xs ≤ M * xs.length
  | [], _ => by simp [sumU]
  | x :: xs, h => by
    have h1 := h x (List.mem_cons_self ..)
    have h2 := sumU_le (xs := xs) fun y hy => h y (List.mem_cons_of_mem _ hy)
    simp only [sumU, List.length_cons, Nat.mul_add, Nat.mul_one]; omega

set_option maxRecDepth 100000 in
theorem sumSubtrees (w : World) (a : Option Addr) (n c : Nat) (ls : List Nat) (hl : ls.length = n) (hn : n ≤ 300) (hb : ∀ x ∈ ls, x ≤ 2199023255552) (hc : Nums64 w a ls) :
    Calls Tryz.prog 31 #[.slice a n c] w fun e w' => e = .returned (.int .u64 ((sumU ls : Nat) : Int)) ∧ w = w' := by
  have HL := Lib.hid hl
  have HB := Lib.hid hb
  have HC := Lib.hid hc
  clear hl hb hc
  go_enter Tryz.func31, Tryz.ntmps31
  go_wp2_with fail
  go_loopw [2, 6] (fun sv iv wr => ∃ k t : Nat, k ≤ n ∧ iv = .int .i64 (k : Int) ∧ sv = .int .u64 (t : Int) ∧ t = sumU (ls.take k) ∧ w = wr) (fun _ iv _ => n - (intOf iv).toNat)
  case atStart => exact ⟨0, 0, by omega, rfl, rfl, rfl, rfl⟩
  case round =>
    obtain ⟨k, t, hk, rfl, rfl, ht, rfl⟩ := hrel
    have htb : t ≤ 2199023255552 * 300 := by
      rw [ht]
      refine Nat.le_trans (sumU_le fun x hx => HB.out x (List.mem_of_mem_take hx)) ?_
      rw [List.length_take]
      exact Nat.mul_le_mul_left _ (by omega)
    have HT := Lib.hid ht
    clear ht
    by_cases hlt : k < n
    · obtain ⟨b, o, ea, hb2, hcell⟩ := HC.out (by rw [HL.out]; omega)
      subst ea
      have gx := hcell k (by rw [HL.out]; exact hlt)
      obtain ⟨x, hx⟩ : ∃ x, x = ls.getD k 0 := ⟨_, rfl⟩
      rw [← hx] at gx
      have hkl : k < ls.length := by rw [HL.out]; exact hlt
      have hxm : x ≤ 2199023255552 := by
        rw [hx, List.getD_eq_getElem?_getD, List.getElem?_eq_getElem hkl]; exact HB.out _ (List.getElem_mem hkl)
      have HX := Lib.hid hx
      clear hcell hx
      go_wp2_with fail
      go_roundw
      case rel => exact ⟨k + 1, t + x, by omega, by go_num, by go_num, by rw [Cnt.take_more hkl, sumU_append, ← HX.out, HT.out]; simp [sumU], trivial⟩
      case measure => simp [intOf]; omega
    · obtain rfl : k = n := by omega
      have : t = sumU ls := by rw [HT.out, List.take_of_length_le (by rw [HL.out]; exact Nat.le_refl _)]
      go_wp2_with fail
      go_ret
      exact ⟨by rw [this]; rfl, rfl⟩
end Go.Proofs.YtegohkgmamnkdaaGreat.Msg
