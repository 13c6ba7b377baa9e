/- vaSame, the reading of two bytes as a number, GetSlice and SliceAt, walked. Conditions: the offsets rise and stay in the buffer. -/
import Derived.Test.YtbenpkonepfipaaRb
import Derived.WalkLawsBesides
set_option linter.unusedVariables false
namespace Go.Proofs.Ytbenpkonepfipaa.Sl
open Go.ChangeShapes Go.WideShapes Go.ChangeAt Go.RowKit
open Go.Proofs.Ytbenpkonepfipaa.Dig Go.Proofs.Ytbenpkonepfipaa.Mem Go.Proofs.Ytbenpkonepfipaa.Rb

theorem vaSame (w : World) (a b : Option Addr) (n c m d : Nat) (xs ys : List Nat) (hx : RB w a n c xs) (hy : RB w b m d ys) :
    Calls Try.prog 19 #[.slice a n c, .slice b m d] w fun e w' => e = .returned (.bool (xs == ys)) ∧ w = w' := by
  have h1 := run_text (P := Try.prog) (dst := 9) Try.underlying27 Try.underlying5 Try.underlying9 hx
  have h2 := run_text (P := Try.prog) (dst := 9) Try.underlying27 Try.underlying5 Try.underlying9 hy
  have he := txt_eq hx.byte hy.byte
  clear hx hy
  go_enter Try.func19, Try.ntmps19
  go_wp2
  go_ret
  exact ⟨rfl, rfl⟩

theorem expectSize (w : World) (a : Option Addr) (c : Nat) :
    Calls Try.prog 71 #[.slice a 2 c, .int .u16 2] w fun e w' => e = .returned (.tuple #[]) ∧ w = w' := by
  go_enter Try.func71, Try.ntmps71
  go_wp2
  go_end0
  exact ⟨rfl, rfl⟩

theorem or_u16 (x y : Nat) (bx : x < 256) (by_ : y < 256) : bits .or .u16 ((x : Nat) : Int) (((y : Nat) : Int) * 256) = ((x + 256 * y : Nat) : Int) := by
  have e : ((y : Nat) : Int) * 256 = ((y * 256 : Nat) : Int) := by omega
  rw [e, u16_or_nat _ _ (by omega) (by omega), Nat.or_comm]
  rw [show y * 256 = 2 ^ 8 * y by omega, ← Nat.two_pow_add_eq_or_of_lt (by omega : x < 2 ^ 8)]
  congr 1
  omega
theorem uint16 (w : World) (b o c x y : Nat) (hx : w.cell? ⟨b, o, none⟩ = some (.int .u8 (x : Int))) (hy : w.cell? ⟨b, o + 1, none⟩ = some (.int .u8 (y : Int))) (bx : x < 256) (by_ : y < 256) :
    Calls Try.prog 72 #[.agg #[], .slice (some ⟨b, o, none⟩) 2 c] w fun e w' => e = .returned (.int .u16 ((x + 256 * y : Nat) : Int)) ∧ Below w.heap.size w w' := by
  have hx1 : ∀ O, (w.alloc O).cell? ⟨b, o, none⟩ = some (.int .u8 (x : Int)) := fun O => by rw [World.cell?_alloc_lt w O _ (lt_of_cell hx), hx]
  have hy1 : ∀ O, (w.alloc O).cell? ⟨b, o + 1, none⟩ = some (.int .u8 (y : Int)) := fun O => by rw [World.cell?_alloc_lt w O _ (lt_of_cell hy), hy]
  clear hx hy
  go_enter Try.func72, Try.ntmps72
  go_wp2
  go_quiet (fail)
  go_wp2
  go_ret
  refine ⟨?_, bdn (by go_grown) _⟩
  rw [← or_u16 x y bx by_]
  rfl

theorem elem73 : Try.prog.elem 73 = 5 := by kernel_rfl
theorem elem27 : Try.prog.elem 27 = 5 := by kernel_rfl
theorem size1 (w : World) : (sizeOf 5).run Try.prog w = .ok 1 w := by kernel_rfl

theorem readUint16 (w : World) (b o c x y : Nat) (hx : w.cell? ⟨b, o, none⟩ = some (.int .u8 (x : Int))) (hy : w.cell? ⟨b, o + 1, none⟩ = some (.int .u8 (y : Int))) (bx : x < 256) (by_ : y < 256) :
    Calls Try.prog 65 #[.slice (some ⟨b, o, none⟩) 2 c] w fun e w' => e = .returned (.int .u16 ((x + 256 * y : Nat) : Int)) ∧ Below w.heap.size w w' := by
  have K := Lib.hid (uint16 w b o c x y hx hy bx by_)
  clear hx hy
  go_enter Try.func65, Try.ntmps65
  go_wp2_with (first
    | (go_at_call 71; refine (expectSize _ _ _).mono ?_; rintro e w1 ⟨rfl, rfl⟩)
    | (go_at_call 72; refine K.out.mono ?_; rintro e w1 ⟨rfl, hb⟩))
  go_ret
  exact ⟨rfl, hb⟩

/-- The number at place j of some offsets. -/
def off (os : List Nat) (j : Nat) : Nat := os.getD (j * 2) 0 + 256 * os.getD (j * 2 + 1) 0

theorem readAt {w0 : World} {b o m d : Nat} {os : List Nat} (hos : os.length = m) (hb : Bytes w0 b o os) (bx : ∀ x ∈ os, x < 256) (j : Nat) (hj : j * 2 + 1 < m) :
    ∀ w', Below w0.heap.size w0 w' → Calls Try.prog 65 #[.slice (some ⟨b, o + j * 2, none⟩) 2 (d - j * 2)] w' fun e w'' => e = .returned (.int .u16 ((off os j : Nat) : Int)) ∧ Below w'.heap.size w' w'' := by
  intro w' hbel
  have hb' := hb.below hbel (Nat.le_refl _)
  exact readUint16 w' b (o + j * 2) (d - j * 2) _ _ (by rw [hb' (j * 2) (by omega)]) (by rw [Nat.add_assoc, hb' (j * 2 + 1) (by omega)]) (getD_lt bx (by omega)) (getD_lt bx (by omega))

theorem cut27 (a : Option Addr) (n c lo hi : Nat) (h1 : lo ≤ hi) (h2 : hi ≤ c) :
    ∀ w, (Instr.slice 27 (.slice a n c) (some (.int .u16 (lo : Int))) (some (.int .u16 (hi : Int))) none).run Try.prog w = .ok (.slice (cutA a c lo) (hi - lo) (c - lo)) w := fun w =>
  cutA_run (by rw [elem27]; exact Try.underlying27) (by rw [elem27]; exact size1 w) a n c .u16 .u16 lo hi h1 h2

theorem getSlice (w : World) (a a' : Option Addr) (n c m d i lo hi : Nat) (os : List Nat) (ho : RB w a' m d os) (hn : n ≤ 4000) (hnc : n ≤ c) (hm : m ≤ 200) (hm2 : m % 2 = 0) (him : i * 2 ≤ m)
    (hlo : lo = if i = 0 then 0 else off os (i - 1)) (hhi : hi = if i * 2 < m then off os i else n) (h1 : lo ≤ hi) (h2 : hi ≤ n) :
    Calls Try.prog 42 #[.agg #[.slice a n c, .slice a' m d], .int .i64 (i : Int)] w fun e w' => e = .returned (.slice (cutA a c lo) (hi - lo) (c - lo)) ∧ Below w.heap.size w w' := by
  have hcut := cut27 a n c lo hi h1 (by omega)
  have hos := ho.len
  have hd := ho.le
  have hd2 := ho.top
  unfold maxLen at hd2
  by_cases hm0 : m = 0
  · obtain rfl : i = 0 := by omega
    rw [if_pos rfl] at hlo
    rw [if_neg (by omega)] at hhi
    subst hlo hhi
    subst hm0
    simp only [Int.natCast_zero] at hcut
    clear ho
    go_enter Try.func42, Try.ntmps42
    go_wp2_with fail
    go_ret
    exact ⟨rfl, by go_grown⟩
  · obtain ⟨b, o, rfl, hb⟩ := ho.at_ (by omega)
    have hbw : Bytes (w.alloc (.cells #[.slice a n c, .slice (some ⟨b, o, none⟩) m d] 75)) b o os := hb.below (B := w.heap.size) (by go_grown) (Nat.le_refl _)
    have K := fun j hj => readAt (d := d) hos hbw ho.byte j hj
    have hc : ∀ w', Below (w.alloc (.cells #[.slice a n c, .slice (some ⟨b, o, none⟩) m d] 75)).heap.size (w.alloc (.cells #[.slice a n c, .slice (some ⟨b, o, none⟩) m d] 75)) w' →
        w'.cell? ⟨w.heap.size, 0, none⟩ = some (.slice a n c) ∧ w'.cell? ⟨w.heap.size, 1, none⟩ = some (.slice (some ⟨b, o, none⟩) m d) ∧ Below w.heap.size w w' := fun w' hb' =>
      ⟨(hb'.cell (p := ⟨w.heap.size, 0, none⟩) (by simp)).trans (by simp), (hb'.cell (p := ⟨w.heap.size, 1, none⟩) (by simp)).trans (by simp), Below.trans (by go_grown) (hb'.mono (by simp))⟩
    have HC := Lib.hid hc
    clear ho hb hbw hc
    by_cases hi0 : i = 0
    · subst hi0
      rw [if_pos rfl] at hlo
      rw [if_pos (by omega)] at hhi
      have K0 := K 0 (by omega)
      simp only [Nat.zero_mul, Nat.add_zero, Nat.sub_zero] at K0
      rw [← hhi] at K0
      have K0 := Lib.hid K0
      subst hlo
      simp only [Int.natCast_zero] at hcut
      clear K hhi
      have hmp : (0 : Int) < (m : Int) := by omega
      go_enter Try.func42, Try.ntmps42
      go_wp2_with (go_at_call 65; refine (K0.out _ (Below.refl _ _)).mono ?_; rintro e w1 ⟨rfl, hb1⟩; obtain ⟨e0, e1, hbel⟩ := HC.out _ hb1)
      go_ret
      exact ⟨rfl, hbel⟩
    · rw [if_neg hi0] at hlo
      have K1 := K (i - 1) (by omega)
      rw [← hlo] at K1
      have K1 := Lib.hid K1
      have hip : (0 : Int) < (i : Int) := by omega
      by_cases him2 : i * 2 < m
      · rw [if_pos him2] at hhi
        have K2 := K i (by omega)
        rw [← hhi] at K2
        have K2 := Lib.hid K2
        clear K hhi hlo
        go_enter Try.func42, Try.ntmps42
        go_wp2_with (first
          | (go_at_call 65; (with_reducible refine (K1.out _ (Below.refl _ _)).mono ?_); rintro e w1 ⟨rfl, hb1⟩; obtain ⟨e0, e1, hbel⟩ := HC.out _ hb1)
          | (go_at_call 65; (with_reducible refine (K2.out _ hb1).mono ?_); rintro e w2 ⟨rfl, hb2⟩; obtain ⟨f0, f1, hbel2⟩ := HC.out _ (hb1.trans (hb2.mono hb1.size))))
        go_ret
        exact ⟨rfl, hbel2⟩
      · rw [if_neg him2] at hhi
        subst hhi
        clear K hlo
        go_enter Try.func42, Try.ntmps42
        go_wp2_with (go_at_call 65; (with_reducible refine (K1.out _ (Below.refl _ _)).mono ?_); rintro e w1 ⟨rfl, hb1⟩; obtain ⟨e0, e1, hbel⟩ := HC.out _ hb1)
        go_ret
        exact ⟨rfl, hbel⟩
end Go.Proofs.Ytbenpkonepfipaa.Sl
