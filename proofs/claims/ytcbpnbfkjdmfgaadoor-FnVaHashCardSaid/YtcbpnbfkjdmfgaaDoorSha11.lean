/- SHA-512's digest: bytes taken in, the library's, walked. Condition: at most 4500 bytes. -/
import Derived.Test.YtcbpnbfkjdmfgaaDoorSha9
import Derived.Test.YtcbpnbfkjdmfgaaDoorSha10
set_option linter.unusedVariables false
namespace Go.Proofs.YtcbpnbfkjdmfgaaDoor.Sha
open Go.ChangeShapes Go.WideShapes Go.ChangeAt Go.RowKit
open Go.Proofs.YtcbpnbfkjdmfgaaDoor.Dig Go.Proofs.YtcbpnbfkjdmfgaaDoor.Mem Go.Proofs.YtcbpnbfkjdmfgaaDoor.Rb

theorem comps_add (K : List Int) (s : S8) (A B : List Nat) (k : Nat) (hA : A.length = 128 * k) : ∀ m, comps K s (A ++ B) (k + m) = comps K (comps K s A k) B m
  | 0 => by
    show comps K s (A ++ B) k = comps K s A k
    have h : ∀ i, i ≤ k → comps K s (A ++ B) i = comps K s A i := fun i => by
      induction i with
      | zero => intro _; rfl
      | succ i ih =>
        intro hi
        show comp K (comps K s (A ++ B) i) _ = comp K (comps K s A i) _
        rw [ih (by omega), List.drop_append_of_le_length (by omega), List.take_append_of_le_length (by rw [List.length_drop]; omega)]
    exact h k (Nat.le_refl _)
  | m + 1 => by
    show comp K (comps K s (A ++ B) (k + m)) _ = comp K (comps K (comps K s A k) B m) _
    rw [comps_add K s A B k hA m]
    have e : (A ++ B).drop (128 * (k + m)) = B.drop (128 * m) := by
      rw [List.drop_append, List.drop_of_length_le (by omega), List.nil_append, show 128 * (k + m) - A.length = 128 * m by omega]
    show comp K _ (((A ++ B).drop (128 * (k + m))).take 128) = _
    rw [e]

theorem block (w : World) (g : Nat) (s : S8) (x : List Nat) (nx len : Int) (D : Dg w g s.list x nx len) (K : KG w) (hg0 : 0 < g) (a : Option Addr) (c n M : Nat) (p : List Nat) (R : RB w a n c p) (hn : n = 128 * M) (hM : n ≤ 5000) :
    Calls Tryd.prog 33 #[.pointer (some ⟨g, 0, none⟩), .slice a n c] w fun e w' => e = .returned (.tuple #[]) ∧ Dg w' g (comps KK s p M).list x nx len ∧ Wr g w w' := by
  have H := Lib.hid (blockGeneric w g s x nx len D K hg0 a c n M p R hn hM)
  clear D K R hn
  go_enter Tryd.func33, Tryd.ntmps33
  go_wp2_with (go_at_call 35; go_loud ((with_reducible refine H.out.mono ?_); rintro e w1 ⟨rfl, hd, hw⟩; have HD := Lib.hid hd; have HW := Lib.hid hw; clear hd hw))
  go_end0
  exact ⟨rfl, HD.out, HW.out⟩

/-- What a slice of bytes reads, behind writes to another block. -/
theorem rb_other {w w' : World} {g : Nat} {a : Option Addr} {n c : Nat} {xs : List Nat} (h : RB w a n c xs) (hb : Wr g w w') (hg : 0 < n → ∀ b o, a = some ⟨b, o, none⟩ → b ≠ g) : RB w' a n c xs :=
  ⟨h.len, h.le, h.top, h.byte, fun hn => by
    obtain ⟨b, o, e, hc⟩ := h.at_ hn
    refine ⟨b, o, e, fun i hi => ?_⟩
    have h1 := hc i hi
    rw [← h1]
    have e1 := hb.block b (lt_of_cell h1) (hg hn b o e)
    simp only [World.cell?, e1]⟩
theorem rb_take {w : World} {a : Option Addr} {n c m : Nat} {p : List Nat} (h : RB w a n c p) (hm : m ≤ n) : RB w a m c (p.take m) :=
  ⟨by rw [List.length_take, h.len]; omega, Nat.le_trans hm h.le, h.top, fun v hv => h.byte v (List.mem_of_mem_take hv), fun h0 => by
    obtain ⟨b, o, e, hb⟩ := h.at_ (by omega)
    refine ⟨b, o, e, fun i hi => ?_⟩
    rw [List.length_take] at hi
    rw [hb i (by omega)]
    simp [List.getD_eq_getElem?_getD, List.getElem?_take_of_lt (show i < m by omega)]⟩
theorem andNot_all : (List.range 4501).all (fun n => bits .andNot .i64 (n : Int) 127 == ((128 * (n / 128) : Nat) : Int)) = true := by kernel_rfl
theorem andNot127 (n : Nat) (h : n ≤ 4500) : bits .andNot .i64 (n : Int) 127 = ((128 * (n / 128) : Nat) : Int) := by
  have := List.all_eq_true.1 andNot_all n (List.mem_range.2 (by omega))
  simpa using this
theorem comps_take (K : List Int) (s : S8) (p : List Nat) (k : Nat) (h : 128 * k ≤ p.length) : comps K s (p.take (128 * k)) k = comps K s p k := by
  have h1 := comps_add K s (p.take (128 * k)) (p.drop (128 * k)) k (by rw [List.length_take]; omega) 0
  rw [List.take_append_drop] at h1
  exact h1.symm
/-- The bytes of a slice laid over those that wait. -/
theorem dg_copied {w w' : World} {g : Nat} {h : List Int} {x ys : List Nat} {nx len : Int} {o : Nat} (d : Dg w g h x nx len) (ho : o + ys.length ≤ 128) (hr : w'.heap[g]? = some (.cells (splice (DL h x nx len) (8 + o) (bs ys)).toArray 58 (0, 0))) :
    Dg w' g h (x.take o ++ (ys ++ x.drop (o + ys.length))) nx len :=
  ⟨by rw [hr, d.splice_x o ys ho], d.hl, by have := d.xl; rw [List.length_append, List.length_append, List.length_take, List.length_drop]; omega⟩
theorem u8_info : (Tryd.prog.info? 5).map (·.size) = some 1 := by kernel_rfl
section
variable {ops : Array Oper} {rest : List Oper} {o : Oper} {a : Act} {Q : Exit → Act → World → Prop} {w : World}
theorem copy_x {g : Nat} {h : List Int} {x : List Nat} {nx len : Int} (D : Hid (Dg w g h x nx len)) (hgd : o.guard = none) (d s : Operand) (ho : o.op = .call { callee := .builtin .copy, args := #[d, s], argTypes := #[22, 22] })
    (oo dLen dCap : Nat) (hd : a.eval d = .slice (some ⟨g, 8 + oo, none⟩) dLen dCap) (sp : Option Addr) (sLen sCap : Nat) (hs : a.eval s = .slice sp sLen sCap) (p : List Nat) (R : Hid (RB w sp sLen sCap p)) (k : Nat) (h0 : 0 < sLen) (hk : k = Nat.min sLen dLen) (hfit : oo + k ≤ 128)
    (hh : ∀ w', Hid (Dg w' g h (x.take oo ++ (p.take k ++ x.drop (oo + k))) nx len) → Hid (Wr g w w') → wpList Tryd.prog ops Q rest (a.put o.dst (goInt k)) w') : wpList Tryd.prog ops Q (o :: rest) a w := by
  obtain ⟨b, of, e, hb⟩ := R.out.at_ h0
  subst e
  have hl := R.out.len
  have hx := D.out.xl
  have hh8 := D.out.hl
  have hks : k ≤ sLen := by rw [hk]; exact Nat.min_le_left _ _
  have hlen : (bs (p.take k)).length = k := by rw [bs_length, List.length_take]; omega
  have hDL : (DL h x nx len).length = 139 := by
    unfold DL
    rw [List.length_append, List.length_map, List.length_append, bs_length, hx, hh8]
    rfl
  refine wpList_copy_own hgd d s _ _ ho 5 Tryd.underlying22 u8_info g (8 + oo) dLen dCap ⟨b, of, none⟩ sLen sCap hd hs (DL h x nx len).toArray _ D.out.row (bs (p.take k)) (by rw [hlen, hk]) (fun j v hj => ?_) (by rw [hlen, List.size_toArray, hDL]; omega) (fun v hv => by obtain ⟨y, _, rfl⟩ := List.mem_map.1 hv; rfl) ?_
  · have hj' : j < k := by
      have := (List.getElem?_eq_some_iff.1 hj).1
      rwa [hlen] at this
    rw [bs_get (by rw [List.length_take]; omega)] at hj
    have h2 : (p.take k).getD j 0 = p.getD j 0 := by simp [List.getD_eq_getElem?_getD, List.getElem?_take_of_lt hj']
    rw [h2] at hj
    have h1 := hb j (by omega)
    rw [← hj, ← h1]
    unfold Addr.add
    by_cases h00 : j = 0
    · subst h00; rfl
    · simp only [if_neg h00]
  · rw [hlen]
    refine hh _ (Lib.hid ?_) (Lib.hid (Wr.setRow _ _))
    refine ⟨?_, hh8, by rw [List.length_append, List.length_append, List.length_take, List.length_take, List.length_drop]; omega⟩
    rw [setRow_heap _ _ _ _ _ _ D.out.row]
    have e := D.out.splice_x oo (p.take k) (by rw [List.length_take]; omega)
    unfold splice at e
    rw [hlen] at e
    rw [show (p.take k).length = k by rw [List.length_take]; omega] at e
    rw [← e]
end
/-- The state that the rest of a message leaves. -/
def rest (x p : List Nat) (n : Nat) : List Nat := p.drop (128 * (n / 128)) ++ x.drop (n % 128)

set_option maxRecDepth 100000 in
set_option maxHeartbeats 2000000 in
/-- Nothing waits. -/
theorem writeA (w : World) (g : Nat) (s : S8) (x : List Nat) (len : Nat) (D : Dg w g s.list x 0 (len : Int)) (K : KG w) (hg0 : 0 < g) (a : Option Addr) (c n : Nat) (p : List Nat) (R : RB w a n c p) (hne : 0 < n → ∀ b o, a = some ⟨b, o, none⟩ → b ≠ g) (hn : n ≤ 4500) (hlen : len ≤ 5000) :
    Calls Tryd.prog 22 #[.pointer (some ⟨g, 0, none⟩), .slice a n c] w fun e w' => e = .returned (.tuple #[.int .i64 (n : Int), .nilIface]) ∧ Dg w' g (comps KK s p (n / 128)).list (rest x p n) ((n % 128 : Nat) : Int) ((len : Int) + (n : Int)) ∧ Wr g w w' := by
  have DT := Lib.hid D
  have hgl := D.lt
  obtain ⟨n1, n2, n3⟩ := DT.out.n_at
  have r8 := DT.out.free 136
  have r9 := DT.out.free 137
  have RR := Lib.hid R
  have KK0 := Lib.hid K
  have NE := Lib.hid hne
  have hcn := R.le
  have hct := R.top
  unfold maxLen at hct
  have el : IntKind.u64.wrap ((len : Int) + IntKind.u64.wrap (n : Int)) = (len : Int) + (n : Int) := by rw [IntKind.wrap_u64, IntKind.wrap_u64]; omega
  have D1 := Lib.hid (DT.out.set_len ((len : Int) + (n : Int)))
  have W1 := Lib.hid (Wr.setCell (g := g) (o := 137) w (.int .u64 ((len : Int) + (n : Int))))
  have R1 := Lib.hid (rb_other RR.out W1.out NE.out)
  have K1 := Lib.hid (KK0.out.wr W1.out hg0)
  clear D K R hne
  by_cases hbig : 128 ≤ n
  · have hb' : (128 : Int) ≤ (n : Int) := by omega
    obtain ⟨m, hm⟩ : ∃ m, m = 128 * (n / 128) := ⟨_, rfl⟩
    have hAN := andNot127 n hn
    rw [← hm] at hAN
    have hmn : m ≤ n := by omega
    have hnm : n - m < 128 := by omega
    have HMM := Lib.hid hm
    have RT := Lib.hid (rb_take R1.out hmn)
    have BC := Lib.hid (fun M hM => block _ g s x 0 ((len : Int) + (n : Int)) D1.out K1.out hg0 a c m M (p.take m) RT.out hM (by omega))
    have BD := Lib.hid (BC.out (n / 128) hm)
    have CT := Lib.hid (show comps KK s (p.take m) (n / 128) = comps KK s p (n / 128) by rw [hm]; exact comps_take KK s p (n / 128) (by rw [R1.out.len]; omega))
    clear BC hm
    by_cases h0 : 0 < n - m
    · have hcm : ¬ c = m := by omega
      have HMN := Lib.hid (show n - m = Nat.min (n - m) 128 from (Nat.min_eq_left (by omega)).symm)
      have RC := Lib.hid (show ∀ w', Wr g w w' → RB w' (Option.map (fun x => x.add m) a) (n - m) (c - m) (p.drop m) from fun w' hw => by
        have h1 := (rb_other RR.out hw NE.out).cut hmn (Nat.le_refl n)
        unfold cutA at h1
        rw [if_neg hcm, List.take_of_length_le (by rw [List.length_drop, R1.out.len]; omega)] at h1
        exact h1)
      go_enter Tryd.func22, Tryd.ntmps22
      go_wp2_with (first
        | (go_at_call 33; (with_reducible refine BD.out.mono ?_); rintro e w2 ⟨rfl, hd, hw⟩; have D2 := Lib.hid hd; have W2 := Lib.hid (W1.out.trans hw); have RD := Lib.hid (RC.out w2 W2.out); clear hd hw)
        | ((with_reducible refine copy_x D2 rfl (.tmp 80) (.tmp 81) rfl 0 128 128 rfl _ (n - m) (c - m) rfl (p.drop m) RD (n - m) h0 HMN.out (by omega) ?_); intro w3 D3 W3; have m8 := D3.out.n_at.1; have f8 := D3.out.free 136))
      refine bodyPost_ret (results_tmp2 rfl _ _ _) rfl ?_
      refine ⟨rfl, ?_, (W2.out.trans W3.out).trans (Wr.setCell _ _)⟩
      have D4 := D3.out.set_n ((n - m : Nat) : Int)
      rw [CT.out, List.take_zero, List.nil_append, Nat.zero_add, List.take_of_length_le (by rw [List.length_drop, R1.out.len]; omega)] at D4
      have e1 : n % 128 = n - m := by have := HMM.out; omega
      unfold rest
      rw [e1, ← HMM.out]
      exact D4
    · have hnm0 : n = m := by omega
      subst hnm0
      go_enter Tryd.func22, Tryd.ntmps22
      go_wp2_with (go_at_call 33; (with_reducible refine BD.out.mono ?_); rintro e w2 ⟨rfl, hd, hw⟩; have D2 := Lib.hid hd; have W2 := Lib.hid (W1.out.trans hw); clear hd hw)
      all_goals
        refine bodyPost_ret (results_tmp2 rfl _ _ _) rfl ?_
        refine ⟨rfl, ?_, W2.out⟩
        have D4 := D2.out
        rw [CT.out] at D4
        have e1 : n % 128 = 0 := by have := HMM.out; omega
        have e2 : (n : Int) % 128 = 0 := by omega
        unfold rest
        rw [e1, e2, ← HMM.out, List.drop_of_length_le (by rw [R1.out.len]; omega), List.nil_append, List.drop_zero]
        exact D4
  · have hb' : ¬ (128 : Int) ≤ (n : Int) := by omega
    have e1 : n % 128 = n := by omega
    have e2 : n / 128 = 0 := by omega
    have E1 := Lib.hid e1
    have E2 := Lib.hid e2
    clear e1 e2
    by_cases h0 : 0 < n
    · have HMN := Lib.hid (show n = Nat.min n 128 from (Nat.min_eq_left (by omega)).symm)
      go_enter Tryd.func22, Tryd.ntmps22
      go_wp2_with ((with_reducible refine copy_x D1 rfl (.tmp 80) (.tmp 81) rfl 0 128 128 rfl a n c rfl p R1 n h0 HMN.out (by omega) ?_); intro w2 D2 W2; have m8 := D2.out.n_at.1; have f8 := D2.out.free 136)
      refine bodyPost_ret (results_tmp2 rfl _ _ _) rfl ?_
      refine ⟨rfl, ?_, (W1.out.trans W2.out).trans (Wr.setCell _ _)⟩
      have D4 := D2.out.set_n (n : Int)
      rw [List.take_zero, List.nil_append, Nat.zero_add, List.take_of_length_le (by rw [R1.out.len]; omega)] at D4
      have e2 : (n : Int) % 128 = (n : Int) := by omega
      unfold rest
      rw [E1.out, E2.out, e2, Nat.mul_zero, List.drop_zero]
      exact D4
    · obtain rfl : n = 0 := by omega
      go_enter Tryd.func22, Tryd.ntmps22
      go_wp2_with fail
      refine bodyPost_ret (results_tmp2 rfl _ _ _) rfl ?_
      have hp0 : p = [] := List.eq_nil_of_length_eq_zero R1.out.len
      subst hp0
      have D4 := D1.out
      have W4 := W1.out
      simp only [Int.add_zero, Int.cast_ofNat_Int] at D4 W4 ⊢
      exact ⟨rfl, D4, W4⟩

theorem ht128 : Tryd.prog.underlying 56 = some (.array (Tryd.prog.arrayLen 56) (Tryd.prog.elem 56)) := by kernel_rfl
theorem len128 : Tryd.prog.arrayLen 56 = 128 := by kernel_rfl
theorem el128 (w : World) : (sizeOf (Tryd.prog.elem 56)).run Tryd.prog w = .ok 1 w := by kernel_rfl
theorem at_l128 (g nx m : Nat) (h0 : 0 < nx) (h : nx + m = 128) (hm : 0 < m) (w : World) : (Instr.sliceAt 56 (.pointer (some ⟨g, 8, none⟩)) (some (.int .i64 (nx : Int))) none none).run Tryd.prog w = .ok (.slice (some ⟨g, 8 + nx, none⟩) m m) w := by
  rw [run_sliceAt_array_l w 56 _ ht128 .i64 (nx : Int) (by omega) (by rw [len128]; omega), el128, len128]
  simp only [Result.andThen, slicedAt, Int.toNat_natCast, Nat.mul_one]
  rw [if_neg (by omega), show 128 - nx = m by omega]
  unfold Addr.add
  rw [if_neg (by omega)]
theorem rb_x {w : World} {g : Nat} {h : List Int} {x : List Nat} {nx len : Int} (d : Dg w g h x nx len) (hx : ∀ v ∈ x, v < 256) : RB w (some ⟨g, 8, none⟩) 128 128 x :=
  ⟨d.xl, Nat.le_refl _, by unfold maxLen; omega, hx, fun _ => ⟨g, 8, rfl, fun i hi => d.x_at (by rw [d.xl] at hi; exact hi)⟩⟩

set_option maxRecDepth 100000 in
set_option maxHeartbeats 2000000 in
/-- Some bytes wait, and those that come fill whole blocks up. -/
theorem writeB (w : World) (g : Nat) (s : S8) (x : List Nat) (nx len : Nat) (D : Dg w g s.list x (nx : Int) (len : Int)) (K : KG w) (hg0 : 0 < g) (a : Option Addr) (c n : Nat) (p : List Nat) (R : RB w a n c p) (hne : 0 < n → ∀ b o, a = some ⟨b, o, none⟩ → b ≠ g) (hxb : ∀ v ∈ x, v < 256) (hnx0 : 0 < nx) (hnx : nx < 128) (hlen : len ≤ 5000) (hn : nx + n = 128 ∨ nx + n = 256) :
    Calls Tryd.prog 22 #[.pointer (some ⟨g, 0, none⟩), .slice a n c] w fun e w' => e = .returned (.tuple #[.int .i64 (n : Int), .nilIface]) ∧ (∃ x' l', Dg w' g (comps KK s (x.take nx ++ p) ((nx + n) / 128)).list x' 0 l') ∧ Wr g w w' := by
  have DT := Lib.hid D
  have hgl := D.lt
  obtain ⟨n1, n2, n3⟩ := DT.out.n_at
  have r8 := DT.out.free 136
  have r9 := DT.out.free 137
  have RR := Lib.hid R
  have KK0 := Lib.hid K
  have NE := Lib.hid hne
  have XB := Lib.hid hxb
  have hcn := R.le
  have hct := R.top
  unfold maxLen at hct
  have hxl := D.xl
  have el : IntKind.u64.wrap ((len : Int) + IntKind.u64.wrap (n : Int)) = (len : Int) + (n : Int) := by rw [IntKind.wrap_u64, IntKind.wrap_u64]; omega
  have D1 := Lib.hid (DT.out.set_len ((len : Int) + (n : Int)))
  have W1 := Lib.hid (Wr.setCell (g := g) (o := 137) w (.int .u64 ((len : Int) + (n : Int))))
  have R1 := Lib.hid (rb_other RR.out W1.out NE.out)
  obtain ⟨m, hm⟩ : ∃ m, m = 128 - nx := ⟨_, rfl⟩
  have hmn : m ≤ n := by omega
  have hm0 : 0 < m := by omega
  have em : (nx : Int) + (m : Int) = 128 := by omega
  have HMN := Lib.hid (show m = Nat.min n m from (Nat.min_eq_right hmn).symm)
  have HM := Lib.hid hm
  have hnx' : (nx : Int) < 128 := by omega
  have hsl := at_l128 g nx m hnx0 (by omega) hm0
  have RD := Lib.hid (fun w' (hw : Wr g w w') => rb_other RR.out hw NE.out)
  have e128 : bits .andNot .i64 128 127 = 128 := by kernel_rfl
  have i1 : nx + m ≤ 128 := by omega
  have i2 : 128 ≤ nx + m := by omega
  obtain ⟨X, hX⟩ : ∃ X, X = x.take nx ++ (p.take m ++ x.drop (nx + m)) := ⟨_, rfl⟩
  have hX2 : X = x.take nx ++ p.take m := by rw [hX, List.drop_of_length_le (by omega), List.append_nil]
  have hXl : X.length = 128 := by rw [hX2, List.length_append, List.length_take, List.length_take, R1.out.len]; omega
  have hXb : ∀ v ∈ X, v < 256 := fun v hv => by
    rw [hX2] at hv
    rcases List.mem_append.1 hv with h | h
    · exact XB.out v (List.mem_of_mem_take h)
    · exact R1.out.byte v (List.mem_of_mem_take h)
  have HX := Lib.hid hX
  have HX2 := Lib.hid hX2
  have HXB := Lib.hid hXb
  have HXL := Lib.hid hXl
  have BL := Lib.hid (fun w' (hw : Wr g w w') (D' : Dg w' g s.list X 128 ((len : Int) + (n : Int))) => block w' g s X 128 ((len : Int) + (n : Int)) D' (KK0.out.wr hw hg0) hg0 (some ⟨g, 8, none⟩) 128 128 1 X (rb_x D' hXb) rfl (by omega))
  clear D K R hne hxb hm hX hX2 hXl hXb
  rcases hn with hn | hn
  · have hnm : n = m := by omega
    subst hnm
    have HN := Lib.hid hn
    clear hn
    go_enter Tryd.func22, Tryd.ntmps22
    go_wp2_with fail
    refine region_quiet_tail 9 (C := fun w' => ∃ m', w' = (w.setCell ⟨g, 137, none⟩ (.int .u64 ((len : Int) + (n : Int)))).drewN m') (by kernel_rfl) (by kernel_rfl) ⟨1, rfl⟩ ?_
    simp only [List.take_succ_cons, List.take_zero, List.drop_succ_cons, List.drop_zero]
    iterate 9 go_big_quiet_step (fail)
    refine wpQuiet_nil ?_
    rintro _ ⟨m1, rfl⟩
    have D2 := Lib.hid (D1.out.later (bdn (Below.refl _ _) m1) (Nat.lt_succ_self g))
    have W2 := Lib.hid (W1.out.drewN m1)
    have R2 := Lib.hid (RD.out _ W2.out)
    clear hsl
    go_wp2_with (first
      | ((with_reducible refine copy_x D2 rfl (.tmp 31) (.tmp 32) rfl nx n n rfl a n c rfl p R2 n (by omega) HMN.out (by omega) ?_); intro w3 D3 W3; have m8 := D3.out.n_at.1; have f8 := D3.out.free 136; have D4 := Lib.hid (D3.out.set_n 128); have W4 := Lib.hid ((W2.out.trans W3.out).trans (Wr.setCell (o := 136) _ (.int .i64 128))); rw [← HX.out] at D4)
      | (go_at_call 33; (with_reducible refine (BL.out _ W4.out D4.out).mono ?_); rintro e w5 ⟨rfl, hd, hw⟩; have D5 := Lib.hid hd; have W5 := Lib.hid (W4.out.trans hw); clear hd hw; have m9 := D5.out.n_at.1; have f9 := D5.out.free 136))
    all_goals
      refine bodyPost_ret (results_tmp2 rfl _ _ _) rfl ?_
      refine ⟨rfl, ⟨X, (len : Int) + (n : Int), ?_⟩, W5.out.trans (Wr.setCell _ _)⟩
      have D6 := D5.out.set_n 0
      have e1 : x.take nx ++ p = X := by rw [HX2.out, show p.take n = p from List.take_of_length_le (by rw [R1.out.len]; omega)]
      rw [e1, HN.out]
      exact D6
  · have hq : n - m = 128 := by omega
    have HN := Lib.hid hn
    have hcm : ¬ c = m := by omega
    have hcm2 : 128 ≤ c - m := by omega
    have RC := Lib.hid (show ∀ w', Wr g w w' → RB w' (Option.map (fun x => x.add m) a) 128 (c - m) (p.drop m) from fun w' hw => by
      have h1 := (RD.out w' hw).cut hmn (Nat.le_refl n)
      unfold cutA at h1
      rw [if_neg hcm, List.take_of_length_le (by rw [List.length_drop, R1.out.len]; omega), hq] at h1
      exact h1)
    clear hn
    go_enter Tryd.func22, Tryd.ntmps22
    go_wp2_with fail
    refine region_quiet_tail 9 (C := fun w' => ∃ m', w' = (w.setCell ⟨g, 137, none⟩ (.int .u64 ((len : Int) + (n : Int)))).drewN m') (by kernel_rfl) (by kernel_rfl) ⟨1, rfl⟩ ?_
    simp only [List.take_succ_cons, List.take_zero, List.drop_succ_cons, List.drop_zero]
    iterate 9 go_big_quiet_step (fail)
    refine wpQuiet_nil ?_
    rintro _ ⟨m1, rfl⟩
    have D2 := Lib.hid (D1.out.later (bdn (Below.refl _ _) m1) (Nat.lt_succ_self g))
    have W2 := Lib.hid (W1.out.drewN m1)
    have R2 := Lib.hid (RD.out _ W2.out)
    clear hsl
    go_wp2_with (first
      | ((with_reducible refine copy_x D2 rfl (.tmp 31) (.tmp 32) rfl nx m m rfl a n c rfl p R2 m (by omega) HMN.out (by omega) ?_); intro w3 D3 W3; have m8 := D3.out.n_at.1; have f8 := D3.out.free 136; have D4 := Lib.hid (D3.out.set_n 128); have W4 := Lib.hid ((W2.out.trans W3.out).trans (Wr.setCell (o := 136) _ (.int .i64 128))); rw [← HX.out] at D4)
      | (go_at_call 33; (with_reducible refine (BL.out _ W4.out D4.out).mono ?_); rintro e w5 ⟨rfl, hd, hw⟩; have D5 := Lib.hid hd; have W5 := Lib.hid (W4.out.trans hw); clear hd hw; have m9 := D5.out.n_at.1; have f9 := D5.out.free 136; have D6 := Lib.hid (D5.out.set_n 0); have W6 := Lib.hid (W5.out.trans (Wr.setCell (o := 136) _ (.int .i64 0))); have BM := Lib.hid (block _ g (comps KK s X 1) X 0 _ D6.out (KK0.out.wr W6.out hg0) hg0 (Option.map ((fun x => x) ∘ fun x => x.add m) a) (c - m) 128 1 (p.drop m) (RC.out _ W6.out) rfl (by omega)))
      | (go_at_call 33; (with_reducible refine BM.out.mono ?_); rintro e w7 ⟨rfl, hd, hw⟩; have D7 := Lib.hid hd; have W7 := Lib.hid (W6.out.trans hw); clear hd hw))
    all_goals
      refine bodyPost_ret (results_tmp2 rfl _ _ _) rfl ?_
      refine ⟨rfl, ⟨X, (len : Int) + (n : Int), ?_⟩, W7.out⟩
      have D8 := D7.out
      have e1 : x.take nx ++ p = X ++ p.drop m := by rw [HX2.out, List.append_assoc, List.take_append_drop]
      have e2 := comps_add KK s X (p.drop m) 1 HXL.out 1
      rw [e1, HN.out]
      rw [← e2] at D8
      exact D8
end Go.Proofs.YtcbpnbfkjdmfgaaDoor.Sha
