/- A message filled up to whole blocks: the specification's, walked. Condition: at most 4000 bytes. -/
import Derived.Test.YtcbpnbfkjdmfgaaDoorSha4
import Derived.Laws.AppendOwnNone
set_option linter.unusedVariables false
namespace Go.Proofs.YtcbpnbfkjdmfgaaDoor.Sha
open Go.ChangeShapes Go.WideShapes Go.ChangeAt Go.RowKit
open Go.Proofs.YtcbpnbfkjdmfgaaDoor.Dig Go.Proofs.YtcbpnbfkjdmfgaaDoor.Mem Go.Proofs.YtcbpnbfkjdmfgaaDoor.Rb

theorem info_u8 : (Tryd.prog.info? 5).map (fun i => (i.zero, i.size, i.bytes)) = some (some (.int .u8 0), 1, 1) := by kernel_rfl
theorem info_split {P : Program} {t : TypeId} {z : Option Value} {s b : Nat} (h : (P.info? t).map (fun i => (i.zero, i.size, i.bytes)) = some (z, s, b)) : ∃ i, P.info? t = some i ∧ i.zero = z ∧ i.size = s ∧ i.bytes = b := by
  cases hi : P.info? t with
  | none => simp [hi] at h
  | some i =>
    simp only [hi, Option.map_some, Option.some.injEq, Prod.mk.injEq] at h
    exact ⟨i, rfl, h.1, h.2.1, h.2.2⟩

section
variable {ops : Array Oper} {rest : List Oper} {o : Oper} {a : Act} {Q : Exit → Act → World → Prop} {w w0 : World}
set_option maxRecDepth 100000 in
/-- Bytes appended to a row of the call's own, whatever they are. -/
theorem append_rb {B n : Nat} {v : Value} {xs ys : List Nat} (hown : Hid (w.ownsRow B 5 1 v n (bs xs))) (hbel : Hid (Below B w0 w)) (hgd : o.guard = none) (s x : Operand) (ho : o.op = .call { callee := .builtin .append, args := #[s, x], argTypes := #[22, 22] })
    (hs : a.eval s = v) (sp : Option Addr) (m c : Nat) (hx : a.eval x = .slice sp m c) (hr : RB w sp m c ys) (hnc : sp = none → c = 0) (hb : n + m ≤ 1000000) (hB : B ≤ w.heap.size)
    (h : ∀ v' w', Hid (w'.ownsRow B 5 1 v' (n + m) (bs (xs ++ ys))) → Hid (Below B w0 w') → wpList Tryd.prog ops Q rest (a.put o.dst v') w') : wpList Tryd.prog ops Q (o :: rest) a w := by
  obtain ⟨i5, hi, hz0, hz1, hz2⟩ := info_split info_u8
  have hl := hr.len
  cases sp with
  | none =>
    have hm : m = 0 := by
      rcases Nat.eq_zero_or_pos m with h0 | h0
      · exact h0
      · obtain ⟨b, of, e, _⟩ := hr.at_ h0; cases e
    obtain rfl : ys = [] := List.length_eq_zero_iff.1 (by omega)
    have hc := hnc rfl
    subst hm hc
    refine wpList_append_own_none hgd s x 22 ho B 5 i5 1 Tryd.underlying22 hi v n (bs xs) hs hown.out hx ?_
    exact h v w (Lib.hid (by simpa using hown.out)) hbel
  | some ad =>
    refine wpList_append_own w hgd s x 22 ho B 5 i5 (.int .u8 0) 1 1 Tryd.underlying22 hi hz0 hz1 hz2 rfl (by decide) v n (bs xs) hs hown.out ad m c (bs ys) hx (by rw [bs_length, hl, Nat.mul_one]) (fun j u hj => ?_) (fun u hu => ?_) (by unfold maxLen; omega) (by omega) hB ?_
    · have hj' : j < ys.length := by
        have := (List.getElem?_eq_some_iff.1 hj).1
        rwa [bs_length] at this
      rw [bs_get hj'] at hj
      obtain ⟨b, of, e, hcell⟩ := hr.at_ (by omega)
      injection e with e
      subst e
      have := hcell j hj'
      unfold Addr.add
      by_cases h00 : j = 0
      · subst h00; simpa using this.trans hj
      · simp only [if_neg h00]; exact this.trans hj
    · obtain ⟨x, _, rfl⟩ := List.mem_map.1 hu
      rfl
    · intro v' w' h1 h2 _
      refine h v' w' (Lib.hid ?_) (Lib.hid (hbel.out.grown h2 hB (fun j hj => (hown.out.lt j hj).1)))
      rw [bs_append]
      exact h1
/-- '[]byte{}'. -/
theorem build_nil (hgd : o.guard = none) (ho : o.op = .buildSlice 22 0 #[])
    (h : wpList Tryd.prog ops Q rest (a.put o.dst (.slice (some ⟨w.heap.size, 0, none⟩) 0 0)) (w.alloc (.cells #[] 5))) : wpList Tryd.prog ops Q (o :: rest) a w := by
  obtain ⟨i5, hi, hz0, hz1, hz2⟩ := info_split info_u8
  refine wpList_plain hgd fun K hK => ?_
  unfold Oper.wp execOp
  have hrun : (Instr.buildSlice 22 0 #[]).run Tryd.prog w = .ok (.slice (some ⟨w.heap.size, 0, none⟩) 0 0) (w.alloc (.cells #[] 5)) := by
    simp [Instr.buildSlice, run_underlying Tryd.underlying22, sizeOf, typeInfo, hi, newRow, show Array.range 0 = #[] from by simp, Instr.fill]
  simp only [ho, List.map_toArray, List.map_nil, Sem.run_bind, hrun, Result.andThen_ok]
  exact hK _ _ h
end
theorem own_nil (w : World) : (w.alloc (.cells #[] 5)).ownsRow w.heap.size 5 1 (.slice (some ⟨w.heap.size, 0, none⟩) 0 0) 0 (bs []) :=
  ⟨rfl, Or.inr ⟨w.heap.size, 0, #[], rfl, Nat.le_refl _, heap_alloc_new _ _, Nat.le_refl _, Nat.zero_le _, rfl, rfl⟩⟩
theorem own_below {w w' : World} {base n : Nat} {e : TypeId} {size : Nat} {v : Value} {xs : List Value} (h : w.ownsRow base e size v n xs) (hb : Below w.heap.size w w') : w'.ownsRow base e size v n xs := by
  refine ⟨h.1, ?_⟩
  rcases h.2 with h0 | ⟨g, cap, cur, hv, hB, hh, rest⟩
  · exact Or.inl h0
  · have hlt : g < w.heap.size := by
      rcases Nat.lt_or_ge g w.heap.size with h | h
      · exact h
      · rw [Array.getElem?_eq_none h] at hh; cases hh
    exact Or.inr ⟨g, cap, cur, hv, hB, (hb.block g hlt).trans hh, rest⟩
theorem own_form {w : World} {base n : Nat} {e : TypeId} {v : Value} {xs : List Value} (h : w.ownsRow base e 1 v n xs) : ∃ a c, v = .slice a n c := by
  rcases h.2 with ⟨h0, hn⟩ | ⟨g, cap, cur, hv, _⟩
  · exact ⟨none, 0, by rw [h0]; simp_all⟩
  · exact ⟨_, _, hv⟩
theorem own_nc {w : World} {B n c : Nat} {e : TypeId} {a : Option Addr} {xs : List Value} (h : w.ownsRow B e 1 (.slice a n c) n xs) (ha : a = none) : c = 0 := by
  rcases h.2 with ⟨h0, _⟩ | ⟨g, cap, cur, hv, _⟩
  · injection h0
  · injection hv with e1; rw [ha] at e1; cases e1
theorem own_at {w : World} {B n c : Nat} {e : TypeId} {a : Option Addr} {xs : List Value} (h : w.ownsRow B e 1 (.slice a n c) n xs) (hn : 0 < n) : ∃ g cur, a = some ⟨g, 0, none⟩ ∧ B ≤ g ∧ w.heap[g]? = some (.cells cur e (0, 0)) := by
  rcases h.2 with ⟨h0, h1⟩ | ⟨g, cap, cur, hv, hb, hh, _⟩
  · omega
  · injection hv with e1; exact ⟨g, cur, e1, hb, hh⟩
def lenOf : Value → Nat
  | .slice _ n _ => n
  | _ => 0
theorem bytes_of {w : World} {g : Nat} {xs : List Nat} {t : TypeId} (h : w.heap[g]? = some (.cells (bs xs).toArray t (0, 0))) : Bytes w g 0 xs := fun i hi => by
  simp only [World.cell?, h, Nat.zero_add]
  simpa using bs_get hi
theorem rb_lit (w : World) (xs : List Nat) (hx : ∀ x ∈ xs, x < 256) (hl : xs.length ≤ 1000) (e : TypeId) : RB (w.alloc (.cells (bs xs).toArray e)) (some ⟨w.heap.size, 0, none⟩) xs.length xs.length xs :=
  ⟨rfl, Nat.le_refl _, by unfold maxLen; omega, hx, fun _ => ⟨w.heap.size, 0, rfl, bytes_of (xs := xs) (heap_alloc_new _ _)⟩⟩
theorem rb_one (w : World) (v : Int) (x : Nat) (e : TypeId) (hv : v = (x : Int)) (hx : x < 256) : RB (w.alloc (.cells #[.int .u8 v] e)) (some ⟨w.heap.size, 0, none⟩) 1 1 [x] := by
  subst hv
  exact rb_lit w [x] (by simpa using hx) (by simp) e
theorem rb_eight (w : World) (e : TypeId) : RB (w.alloc (.cells #[.int .u8 0, .int .u8 0, .int .u8 0, .int .u8 0, .int .u8 0, .int .u8 0, .int .u8 0, .int .u8 0] e)) (some ⟨w.heap.size, 0, none⟩) 8 8 (List.replicate 8 0) :=
  rb_lit w (List.replicate 8 0) (by simp) (by simp) e

/-- How many noughts; the bytes of a number of eight bytes, the greatest first; the whole. -/
def zc (n : Nat) : Nat := (239 - n % 128) % 128
def beb (v k : Nat) : List Nat := (List.range k).map fun j => v / 256 ^ (7 - j) % 256
theorem beb_length (v k : Nat) : (beb v k).length = k := by simp [beb]
theorem beb_next (v k : Nat) : beb v (k + 1) = beb v k ++ [v / 256 ^ (7 - k) % 256] := by simp [beb, List.range_succ]
theorem beb_byte (v k : Nat) : ∀ x ∈ beb v k, x < 256 := fun x hx => by
  obtain ⟨j, _, rfl⟩ := List.mem_map.1 hx
  omega
def padOf (p : List Nat) : List Nat := p ++ ([128] ++ (List.replicate (zc p.length) 0 ++ (List.replicate 8 0 ++ beb (8 * p.length) 8)))
theorem padOf_length (p : List Nat) : (padOf p).length = p.length + 1 + zc p.length + 16 := by
  simp [padOf, beb_length]; omega
theorem padOf_mod (p : List Nat) : (padOf p).length % 128 = 0 := by rw [padOf_length]; unfold zc; omega
theorem padOf_byte {p : List Nat} (h : ∀ x ∈ p, x < 256) : ∀ x ∈ padOf p, x < 256 := fun x hx => by
  unfold padOf at hx
  simp only [List.mem_append, List.mem_replicate, List.mem_cons, List.not_mem_nil, or_false] at hx
  rcases hx with h1 | rfl | ⟨_, rfl⟩ | ⟨_, rfl⟩ | h1
  · exact h x h1
  · omega
  · omega
  · omega
  · exact beb_byte _ _ x h1

set_option maxRecDepth 100000 in
set_option maxHeartbeats 2000000 in
theorem padded (w : World) (a : Option Addr) (c n : Nat) (p : List Nat) (h : RB w a n c p) (hnc : a = none → c = 0) (hn : n ≤ 4000) :
    Calls Tryd.prog 29 #[.slice a n c] w fun e w' => ∃ g c' cur, e = .returned (.slice (some ⟨g, 0, none⟩) (padOf p).length c') ∧ w.heap.size ≤ g ∧ w'.heap[g]? = some (.cells cur 5 (0, 0)) ∧ RB w' (some ⟨g, 0, none⟩) (padOf p).length c' (padOf p) ∧ Below w.heap.size w w' := by
  have H := Lib.hid h
  have NC := Lib.hid hnc
  have HP := Lib.hid h.len
  have O0 := Lib.hid (own_nil w)
  have B0 := Lib.hid ((Below.refl w.heap.size w).alloc (Nat.le_refl _) (.cells #[] 5))
  obtain ⟨z, hz⟩ : ∃ z, z = zc n := ⟨_, rfl⟩
  have ZZ := Lib.hid hz
  have hz1 : z < 128 := by rw [hz]; unfold zc; omega
  have hz2 : (n + 1 + z) % 128 = 112 := by rw [hz]; unfold zc; omega
  clear h hz hnc
  go_enter Tryd.func29, Tryd.ntmps29
  go_wp2_with (first
    | (with_reducible refine build_nil rfl rfl ?_)
    | (with_reducible refine append_rb O0 B0 rfl (.tmp 6) (.tmp 7) rfl rfl a n c rfl (H.out.below B0.out (Nat.le_refl _)) NC.out (by omega) B0.out.size ?_; intro v1 w1 O1 B1; simp only [Nat.zero_add, List.nil_append] at O1; obtain ⟨a1, c1, e1⟩ := own_form O1.out; subst e1)
    | (with_reducible refine append_rb (ys := [128]) (Lib.hid (O1.out.alloc _)) (Lib.hid (B1.out.alloc B1.out.size _)) rfl (.tmp 8) (.tmp 9) rfl rfl (some ⟨w1.heap.size, 0, none⟩) 1 1 rfl (rb_one w1 _ 128 _ (by omega) (by omega)) (by intro h; cases h) (by omega) (Nat.le_trans B1.out.size (by simp)) ?_; intro v2 w2 O2 B2; obtain ⟨a2, c2, e2⟩ := own_form O2.out; subst e2))
  have hw1 := B2.out.size
  go_loopw [3] (fun ov wr => ∃ (k m : Nat) (g : Option Addr) (cap : Nat), k ≤ z ∧ m = n + 1 + k ∧ ov = .slice g m cap ∧ wr.ownsRow w.heap.size 5 1 ov m (bs (p ++ [128] ++ List.replicate k 0)) ∧ Below w.heap.size w wr) (fun ov _ => n + 1 + z - lenOf ov)
  case atStart => exact ⟨0, n + 1, a2, c2, by omega, by omega, rfl, by simpa using O2.out, B2.out⟩
  case round =>
    obtain ⟨k, m, g, cap, hk, hm, rfl, hown, hbel⟩ := hrel
    have OW := Lib.hid hown
    have BW := Lib.hid hbel
    have hws := hbel.size
    have htm : Int.tmod (m : Int) 128 = (m : Int) % 128 := Int.tmod_eq_emod_of_nonneg (by omega)
    have HM := Lib.hid hm
    have hmb : m ≤ 5000 := by omega
    clear hown hbel
    by_cases hlt : k < z
    · have q1 : ¬ (m : Int) % 128 = 112 := by omega
      clear hm
      have q2 : ((m : Int) % 128 == 112) = false := by simpa using q1
      go_wp2_with (with_reducible refine append_rb (ys := [0]) (Lib.hid (OW.out.alloc _)) (Lib.hid (BW.out.alloc hws _)) rfl (.tmp 15) (.tmp 16) rfl rfl (some ⟨wr.heap.size, 0, none⟩) 1 1 rfl (rb_one wr _ 0 _ (by omega) (by omega)) (by intro h; cases h) (by omega) (Nat.le_trans hws (by simp)) ?_; intro v3 w3 O3 B3; obtain ⟨a3, c3, e3⟩ := own_form O3.out; subst e3)
      go_roundw
      case rel =>
        refine ⟨k + 1, m + 1, a3, c3, by omega, by rw [HM.out]; omega, rfl, ?_, B3.out⟩
        have := O3.out
        rwa [List.append_assoc _ (List.replicate k 0), ← List.replicate_succ'] at this
      case measure => simp only [lenOf]; have := HM.out; omega
    · obtain rfl : k = z := by omega
      have q1 : (m : Int) % 128 = 112 := by omega
      clear hm hz2
      have q2 : ((m : Int) % 128 == 112) = true := by simpa using q1
      go_wp2_with (with_reducible refine append_rb (ys := List.replicate 8 0) (Lib.hid (OW.out.alloc _)) (Lib.hid (BW.out.alloc hws _)) rfl (.tmp 18) (.tmp 19) rfl rfl (some ⟨wr.heap.size, 0, none⟩) 8 8 rfl (rb_eight wr _) (by intro h; cases h) (by omega) (Nat.le_trans hws (by simp)) ?_; intro v4 w4 O4 B4; obtain ⟨a4, c4, e4⟩ := own_form O4.out; subst e4)
      obtain ⟨X, hX⟩ : ∃ X, X = p ++ [128] ++ List.replicate k 0 ++ List.replicate 8 0 := ⟨_, rfl⟩
      rw [← hX] at O4
      have HX := Lib.hid hX
      clear hX
      go_loopw [3, 5] (fun ov iv wr => ∃ (j : Nat) (g : Option Addr) (cap : Nat), j ≤ 8 ∧ iv = .int .i64 (7 - (j : Int)) ∧ ov = .slice g (m + 8 + j) cap ∧ wr.ownsRow w.heap.size 5 1 ov (m + 8 + j) (bs (X ++ beb (8 * n) j)) ∧ Below w.heap.size w wr) (fun ov iv _ => m + 16 - lenOf ov)
      case atStart => exact ⟨0, a4, c4, by omega, by go_num, rfl, by simpa [beb] using O4.out, B4.out⟩
      case round =>
        obtain ⟨j, g5, cap5, hj, rfl, rfl, hown, hbel⟩ := hrel
        have OW := Lib.hid hown
        have BW := Lib.hid hbel
        have hws := hbel.size
        clear hown hbel
        by_cases hlt : j < 8
        · obtain ⟨i, hi⟩ : ∃ i, i = 7 - j := ⟨_, rfl⟩
          have ei : (7 : Int) - (j : Int) = (i : Int) := by omega
          rw [ei]
          have hi7 : (i : Int) < 8 := by omega
          have HI := Lib.hid hi
          have HV := Lib.hid (show (n : Int) * 8 / 2 ^ (8 * i) % 256 = ((8 * n / 256 ^ (7 - j) % 256 : Nat) : Int) by
            rw [← hi, show (256 : Nat) = 2 ^ 8 from rfl, ← Nat.pow_mul]
            push_cast
            rw [Int.mul_comm])
          have HL := Lib.hid (show 8 * n / 256 ^ (7 - j) % 256 < 256 by omega)
          obtain ⟨y, hy⟩ : ∃ y, y = 8 * n / 256 ^ (7 - j) % 256 := ⟨_, rfl⟩
          rw [← hy] at HV HL
          have HY := Lib.hid hy
          clear hi hy ei
          go_wp2_with (with_reducible refine append_rb (ys := [y]) (Lib.hid (OW.out.alloc _)) (Lib.hid (BW.out.alloc hws _)) rfl (.tmp 29) (.tmp 35) rfl rfl (some ⟨wr.heap.size, 0, none⟩) 1 1 rfl (rb_one wr _ y _ HV.out HL.out) (by intro h; cases h) (by omega) (Nat.le_trans hws (by simp)) ?_; intro v3 w3 O3 B3; obtain ⟨a3, c3, e3⟩ := own_form O3.out; subst e3)
          go_roundw
          case rel =>
            refine ⟨j + 1, a3, c3, by omega, ?_, rfl, ?_, B3.out⟩
            · have := HI.out
              have e : (7 : Int) - ((j + 1 : Nat) : Int) = (i : Int) - 1 := by omega
              rw [e]
            · have := O3.out
              rwa [List.append_assoc, HY.out, ← beb_next] at this
          case measure => simp only [lenOf]; omega
        · obtain rfl : j = 8 := by omega
          go_wp2
          go_ret
          have e : X ++ beb (8 * n) 8 = padOf p := by
            rw [HX.out]
            unfold padOf
            rw [HP.out, ← ZZ.out]
            simp only [List.append_assoc]
          have el : m + 8 + 8 = (padOf p).length := by rw [padOf_length, HP.out, ← ZZ.out, HM.out]
          rw [e] at OW
          have h1 := RB.of_own OW.out (padOf_byte H.out.byte)
          have h2 := own_at OW.out (by omega)
          obtain ⟨g, cur, e1, hg, hcur⟩ := h2
          subst e1
          rw [el] at h1
          rw [el]
          exact ⟨g, _, cur, rfl, hg, hcur, h1, BW.out⟩
end Go.Proofs.YtcbpnbfkjdmfgaaDoor.Sha
