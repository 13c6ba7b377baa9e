/- The hash of some bytes: the library's and the specification's, walked. Condition: at most 4000 bytes. -/
import Derived.Test.YtcbpnbfkjdmfgaaDoorSha12
set_option linter.unusedVariables false
namespace Go.Proofs.YtcbpnbfkjdmfgaaDoor.Sha
open Go.ChangeShapes Go.WideShapes Go.ChangeAt Go.RowKit
open Go.Proofs.YtcbpnbfkjdmfgaaDoor.Dig Go.Proofs.YtcbpnbfkjdmfgaaDoor.Mem Go.Proofs.YtcbpnbfkjdmfgaaDoor.Rb

def DZ : List Value := (zs 8).map (Value.int .u64) ++ (bs z128 ++ [.int .i64 0, .int .u64 0, .int .i64 0])
theorem zeroD (w : World) : (zeroValue 58).run Tryd.prog w = .ok (.agg DZ.toArray) w := by kernel_rfl
theorem infoD : (Tryd.prog.info? 58).map (·.size) = some 139 := by kernel_rfl
theorem DL_length {h : List Int} {x : List Nat} {nx len : Int} (hh : h.length = 8) (hx : x.length = 128) : (DL h x nx len).length = 139 := by
  unfold DL
  rw [List.length_append, List.length_map, List.length_append, bs_length, hx, hh]
  rfl
theorem DL_one (h : List Int) (x : List Nat) (nx len : Int) : (DL h x nx len).toArray.all (·.oneCell') = true := by
  simp [DL, bs, Value.oneCell', Function.comp_def]
theorem ht64 : Tryd.prog.underlying 37 = some (.array (Tryd.prog.arrayLen 37) (Tryd.prog.elem 37)) := by kernel_rfl
theorem len64 : Tryd.prog.arrayLen 37 = 64 := by kernel_rfl
theorem el64 (w : World) : (sizeOf (Tryd.prog.elem 37)).run Tryd.prog w = .ok 1 w := by kernel_rfl
theorem own_none (w : World) (B : Nat) (e : TypeId) : w.ownsRow B e 1 (.slice none 0 0) 0 (bs []) := ⟨rfl, Or.inl ⟨rfl, rfl⟩⟩

theorem lt_of_heap {w : World} {b : Nat} {o : Obj} (h : w.heap[b]? = some o) : b < w.heap.size := by
  rcases Nat.lt_or_ge b w.heap.size with h' | h'
  · exact h'
  · rw [Array.getElem?_eq_none h'] at h; cases h
theorem rest_take (x p : List Nat) (n : Nat) (hp : p.length = n) : (rest x p n).take (n % 128) = p.drop (128 * (n / 128)) := by
  unfold rest
  have e : (p.drop (128 * (n / 128))).length = n % 128 := by rw [List.length_drop, hp]; omega
  rw [← e, List.take_left]
theorem rest_byte (x p : List Nat) (n : Nat) (hx : ∀ v ∈ x, v < 256) (hp : ∀ v ∈ p, v < 256) : ∀ v ∈ rest x p n, v < 256 := fun v hv => by
  rcases List.mem_append.1 hv with h | h
  · exact hp v (List.mem_of_mem_drop h)
  · exact hx v (List.mem_of_mem_drop h)
/-- What is read lies in no new block. -/
theorem ne_new {w : World} {a : Option Addr} {n c : Nat} {xs : List Nat} (h : RB w a n c xs) {g : Nat} (hg : w.heap.size ≤ g) : 0 < n → ∀ b o, a = some ⟨b, o, none⟩ → b ≠ g := fun hn b o e => by
  obtain ⟨b', o', e', hc⟩ := h.at_ hn
  rw [e'] at e
  injection e with e
  injection e with e1
  have := lt_of_cell (hc 0 (by rw [h.len]; exact hn))
  have h2 : b' < w.heap.size := this
  omega
theorem rb_all (w : World) (s : List Nat) (hb : ∀ v ∈ s, v < 256) (hl : s.length = 64) : RB (w.alloc (.cells (bs s).toArray 37)) (some ⟨w.heap.size, 0, none⟩) 64 64 s := by
  have := rb_row (heap_alloc_new w (.cells (bs s).toArray 37)) hb 64 64 (by omega) (by omega) (by omega)
  rwa [List.take_of_length_le (by omega)] at this
set_option maxRecDepth 100000 in
set_option maxHeartbeats 1000000 in
theorem sum (w : World) (g n : Nat) (p x : List Nat) (D : Dg w g (comps KK S0 p (n / 128)).list x ((n % 128 : Nat) : Int) (n : Int)) (hx : x.take (n % 128) = p.drop (128 * (n / 128))) (hxb : ∀ v ∈ x, v < 256) (hp : p.length = n) (K : KG w) (hn : n ≤ 4000) :
    Calls Tryd.prog 23 #[.pointer (some ⟨g, 0, none⟩), .slice none 0 0] w fun e w' => ∃ a c, e = .returned (.slice a 64 c) ∧ RB w' a 64 c (sha p) ∧ Below w.heap.size w w' := by
  have DT := Lib.hid D
  have hgl := D.lt
  have hw0 := K.1
  have SZ := Lib.hid (show (Tryd.prog.info? 58).map (·.size) = some (DL (comps KK S0 p (n / 128)).list x ((n % 128 : Nat) : Int) (n : Int)).toArray.size by rw [infoD, List.size_toArray, DL_length D.hl D.xl])
  have ZZ := Lib.hid (show DZ.toArray.size = (DL (comps KK S0 p (n / 128)).list x ((n % 128 : Nat) : Int) (n : Int)).toArray.size by rw [List.size_toArray, List.size_toArray, DL_length D.hl D.xl]; rfl)
  have hz := zeroD
  have hz1 := zero64
  obtain ⟨A, hA⟩ : ∃ A, A = (DL (comps KK S0 p (n / 128)).list x ((n % 128 : Nat) : Int) (n : Int)).toArray := ⟨_, rfl⟩
  have ONE := Lib.hid (show A.all (·.oneCell') = true by rw [hA]; exact DL_one _ _ _ _)
  have ROW := Lib.hid (show (w.alloc (.cells DZ.toArray 58)).heap[g]? = some (.cells A 58 (0, 0)) by rw [hA]; exact (D.later (hb8 w DZ.toArray _) hgl).row)
  rw [← hA] at SZ ZZ
  have D1 := Lib.hid (show Dg (w.alloc (.cells A 58)) w.heap.size (comps KK S0 p (n / 128)).list x ((n % 128 : Nat) : Int) (n : Int) from ⟨by rw [← hA]; exact heap_alloc_new _ _, D.hl, D.xl⟩)
  have CS := Lib.hid (checkSum (w.alloc (.cells A 58)) w.heap.size n p x D1.out hx hxb hp (K.below (hb8 w A _) hw0) hw0 hn)
  have BA := Lib.hid (hb8 w A 58)
  have S64 := Lib.hid (show (Tryd.prog.info? 37).map (·.size) = some (bs (sha p)).toArray.size from size64 _)
  have Z64 := Lib.hid (show z64.size = (bs (sha p)).toArray.size by simp [z64, bs, sha_length])
  have SL := Lib.hid (sha_length p)
  have SB := Lib.hid (show ∀ v ∈ sha p, v < 256 from fun v hv => outb_byte _ _ v hv)
  obtain ⟨s, hs⟩ : ∃ s, s = sha p := ⟨_, rfl⟩
  rw [← hs] at CS S64 Z64 SL SB
  rw [← hs]
  clear D hx hxb hp K hA hs
  go_enter Tryd.func23, Tryd.ntmps23
  go_wp2_with (first
    | (with_reducible refine wpList_load_row rfl 58 (.tmp 10) rfl g rfl 58 A (0, 0) _ ROW.out Tryd.underlying58 rfl SZ.out ?_)
    | (with_reducible refine store_new (A := DZ.toArray) (t := 58) rfl 58 (.tmp 12) (.tmp 11) rfl A rfl rfl SZ.out ZZ.out ONE.out ?_)
    | (go_at_call 34; (with_reducible refine CS.out.mono ?_); rintro e w2 ⟨rfl, hw⟩; have B2 := Lib.hid (BA.out.trans (hw.below (Nat.le_refl _) (by simp))); have hd := (DT.out.later BA.out hgl).other hw (by omega); have m138 := (hd.later (hb8 w2 (bs s).toArray 37) hd.lt).n_at.2.2; clear hw hd)
    | (with_reducible refine store_new (A := z64) (t := 37) rfl 37 (.tmp 6) (.tmp 14) rfl (bs s).toArray rfl rfl S64.out Z64.out (bs_one _) ?_)
    | (with_reducible refine append_rb (xs := []) (ys := s) (Lib.hid (own_none _ w.heap.size _)) (Lib.hid (B2.out.alloc B2.out.size _)) rfl (.tmp 15) (.tmp 20) rfl rfl (some ⟨w2.heap.size, 0, none⟩) 64 64 rfl (rb_all w2 s SB.out SL.out) (by intro h; cases h) (by omega) (Nat.le_trans B2.out.size (by simp)) ?_; intro v1 w3 O3 B3; obtain ⟨a3, c3, e3⟩ := own_form O3.out; subst e3))
  go_ret
  have h1 := RB.of_own O3.out (by rw [List.nil_append]; exact SB.out)
  rw [List.nil_append, Nat.zero_add] at h1
  exact ⟨_, _, rfl, h1, B3.out⟩

def z20 : List Nat := [0, 0, 0, 0, 0, 0, 0, 0, 0, 0, 0, 0, 0, 0, 0, 0, 0, 0, 0, 0]
abbrev Z20 : Array Value := (bs z20).toArray
theorem zeroH (w : World) : (zeroValue 31).run Tryd.prog w = .ok (.agg Z20) w := by kernel_rfl
theorem zero20 (w : World) : (zeroValue 23).run Tryd.prog w = .ok (.agg Z20) w := by kernel_rfl
theorem builtH : Tryd.prog.built 31 [] = some Z20 := by kernel_rfl
theorem build_H {ops : Array Oper} {rest : List Oper} {o : Oper} {a : Act} {w : World} {Q : Exit → Act → World → Prop} (hg : o.guard = none) (ho : o.op = .build 31 #[])
    (h : wpList Tryd.prog ops Q rest (a.put o.dst (.agg Z20)) w) : wpList Tryd.prog ops Q (o :: rest) a w :=
  have hp : ((#[] : Array (Nat × Operand)).map fun (i, x) => (i, a.eval x)).toList = [] := by simp
  wpList_build hg _ #[] ho (by rw [hp, builtH]; rfl) (by rw [hp, builtH]; exact h)
theorem infoH : (Tryd.prog.info? 31).map (·.size) = some 20 := by kernel_rfl
theorem info20 : (Tryd.prog.info? 23).map (·.size) = some 20 := by kernel_rfl
theorem bs20 {xs : List Nat} (h : xs.length = 20) : (bs xs).toArray.size = 20 := by rw [List.size_toArray, bs_length, h]

section
variable {ops : Array Oper} {rest : List Oper} {o : Oper} {a : Act} {Q : Exit → Act → World → Prop} {w : World}
/-- A copy into the whole of a row. -/
theorem copy_all (hgd : o.guard = none) (d s : Operand) (ho : o.op = .call { callee := .builtin .copy, args := #[d, s], argTypes := #[22, 22] })
    (b n c : Nat) (hd : a.eval d = .slice (some ⟨b, 0, none⟩) n n) (sp : Option Addr) (hs : a.eval s = .slice sp n c) (xs : List Nat) (hr : RB w sp n c xs) (B : Array Value) (u : TypeId) (hB : w.heap[b]? = some (.cells B u (0, 0))) (hBn : B.size = n) (h0 : 0 < n)
    (h : wpList Tryd.prog ops Q rest (a.put o.dst (goInt n)) (w.setRow b (bs xs).toArray)) : wpList Tryd.prog ops Q (o :: rest) a w := by
  have hl := hr.len
  obtain ⟨b', of, rfl, hb⟩ := hr.at_ h0
  have e : ((B.toList.take 0 ++ (bs xs ++ B.toList.drop (0 + (bs xs).length))).toArray : Array Value) = (bs xs).toArray := by
    rw [bs_length, hl, Nat.zero_add, List.drop_of_length_le (by simp [hBn])]; simp
  refine wpList_copy_own hgd d s _ _ ho 5 Tryd.underlying22 u8_info b 0 n n ⟨b', of, none⟩ n c hd hs B u hB (bs xs) (by rw [bs_length, hl]; simp) (fun j v hj => ?_) (by rw [bs_length, hl, hBn]; omega) (fun v hv => ?_) ?_
  · have hj' : j < xs.length := by
      have := (List.getElem?_eq_some_iff.1 hj).1
      rwa [bs_length] at this
    rw [bs_get hj'] at hj
    have := hb j hj'
    unfold Addr.add
    by_cases h00 : j = 0
    · subst h00; simp only [if_pos]; simpa using this.trans hj
    · simp only [if_neg h00]; exact this.trans hj
  · obtain ⟨x, _, rfl⟩ := List.mem_map.1 hv
    rfl
  · rw [e, bs_length, hl]
    exact h
end

set_option maxRecDepth 100000 in
set_option maxHeartbeats 1000000 in
theorem hashOf (w : World) (a : Option Addr) (c n : Nat) (p : List Nat) (h : RB w a n c p) (K : KG w) (hn : n ≤ 4000) :
    Calls Tryd.prog 12 #[.slice a n c] w fun e w' => e = .returned (.agg (bs ((sha p).take 20)).toArray) ∧ Below w.heap.size w w' := by
  have hw0 := K.1
  have HR := Lib.hid h
  have KK0 := Lib.hid K
  have hz := zeroH
  have B0 := Lib.hid (hb8 w Z20 31)
  have X0 := Lib.hid (heap_alloc_new w (.cells Z20 31))
  have nd := newDigest (w.alloc (.cells Z20 31))
  have es : (w.alloc (.cells Z20 31)).heap.size = w.heap.size + 1 := by simp
  rw [es] at nd
  have ND := Lib.hid nd
  have hp := h.len
  have hpb := h.byte
  have RX := Lib.hid (rest_take z128 p n hp)
  have RXB := Lib.hid (rest_byte z128 p n (by simp [z128]) hpb)
  have HP := Lib.hid hp
  clear nd es hp hpb
  obtain ⟨hs, hhs⟩ : ∃ hs, hs = (sha p).take 20 := ⟨_, rfl⟩
  have hl20 : hs.length = 20 := by rw [hhs, List.length_take, sha_length]; rfl
  have HHS := Lib.hid hhs
  have S20 := Lib.hid (show (Tryd.prog.info? 31).map (·.size) = some (bs hs).toArray.size by rw [infoH, bs20 hl20])
  have Z0 := Lib.hid (show Z20.size = (bs hs).toArray.size by rw [bs20 hl20]; rfl)
  have SZ := Lib.hid (show (Tryd.prog.info? 31).map (·.size) = some Z20.size from infoH)
  rw [← hhs]
  clear h K hhs hl20
  go_enter Tryd.func12, Tryd.ntmps12
  go_wp2_with (first
    | (go_at_call 21; (with_reducible refine ND.out.mono ?_); rintro e w1 ⟨rfl, hd, hb⟩; have D1 := Lib.hid hd; have B1 := Lib.hid (B0.out.trans (hb.mono (by simp))); have X1 := Lib.hid ((hb.block w.heap.size (by simp)).trans X0.out); have WA := Lib.hid (writeA w1 _ S0 z128 0 hd (KK0.out.below B1.out hw0) (by simp) a c n p (HR.out.below B1.out (Nat.le_refl _)) (ne_new HR.out (by simp)) (by omega) (by omega)); clear hd hb)
    | (go_at_call 22; (with_reducible refine WA.out.mono ?_); rintro e w2 ⟨rfl, hd, hw⟩; rw [Int.natCast_zero, Int.zero_add] at hd; have B2 := Lib.hid (B1.out.trans (hw.below (by omega) B1.out.size)); have X2 := Lib.hid ((hw.block w.heap.size (lt_of_heap X1.out) (by omega)).trans X1.out); have SM := Lib.hid (sum w2 _ n p _ hd RX.out RXB.out HP.out (KK0.out.below B2.out hw0) hn); clear hd hw)
    | (go_at_call 23; (with_reducible refine SM.out.mono ?_); rintro e w3 ⟨a3, c3, rfl, hr, hb⟩; have R3 := Lib.hid (rb_take hr (show 20 ≤ 64 by omega)); have B3 := Lib.hid (B2.out.trans (hb.mono B2.out.size)); have X3 := Lib.hid ((hb.block w.heap.size (lt_of_heap X2.out)).trans X2.out); have hc3 := hr.le; clear hr hb)
    | (refine build_H rfl rfl ?_)
    | (with_reducible refine store_new (A := Z20) (t := 31) rfl 31 (.tmp 5) (.tmp 12) rfl Z20 rfl rfl SZ.out rfl (bs_one _) ?_))
  simp only [Act.put]
  have hc20 : 20 ≤ c3 := by omega
  have hc20' : (20 : Int) ≤ (c3 : Int) := by omega
  refine region_quiet_tail 3 (C := fun w' => ∃ m', w' = (w3.alloc (.cells Z20 31)).drewN m') (by kernel_rfl) (by kernel_rfl) ⟨1, rfl⟩ ?_
  simp only [List.take_succ_cons, List.take_zero, List.drop_succ_cons, List.drop_zero]
  iterate 3 go_big_quiet_step (fail)
  refine wpQuiet_nil ?_
  rintro _ ⟨m1, rfl⟩
  have B4 := Lib.hid (bdn (B3.out.alloc B3.out.size (.cells Z20 31)) m1)
  have R4 := Lib.hid (R3.out.below (bdn (hb8 w3 Z20 31) m1) (Nat.le_refl _))
  have N4 := Lib.hid (show ((w3.alloc (.cells Z20 31)).drewN m1).heap[w3.heap.size]? = some (.cells Z20 31 (0, 0)) from heap_alloc_new w3 _)
  have X4 := Lib.hid (((hb8 w3 Z20 31).block w.heap.size (lt_of_heap X3.out)).trans X3.out)
  have L4 := lt_of_heap X3.out
  rw [← HHS.out] at R4
  have N5 := Lib.hid (setRow_heap _ w3.heap.size _ (bs hs).toArray _ _ N4.out)
  have X5 := Lib.hid ((setRow_other ((w3.alloc (.cells Z20 31)).drewN m1) w3.heap.size w.heap.size (bs hs).toArray (by omega)).trans X4.out)
  have B5 := Lib.hid (below_setRow B4.out (show w.heap.size ≤ w3.heap.size by omega) (bs hs).toArray)
  go_wp2_with (first
    | (with_reducible refine copy_all rfl (.tmp 13) (.tmp 15) rfl w3.heap.size 20 c3 rfl a3 rfl hs R4.out Z20 31 N4.out rfl (by omega) ?_)
    | (with_reducible refine wpList_load_row rfl 31 (.tmp 5) rfl w3.heap.size rfl 31 (bs hs).toArray (0, 0) _ N5.out Tryd.underlying31 rfl S20.out ?_)
    | (with_reducible refine wpList_store_row rfl 31 (.tmp 2) (.tmp 17) rfl w.heap.size (bs hs).toArray rfl rfl 31 Z20 X5.out S20.out Z0.out (bs_one _) ?_))
  refine bodyPost_ret (results_cell_row rfl _ _ w.heap.size 31 (bs hs).toArray (0, 0) _ rfl (setRow_heap _ _ _ _ _ _ X5.out) Tryd.underlying31 rfl S20.out) rfl ?_
  exact ⟨rfl, below_setRow B5.out (Nat.le_refl _) _⟩
end Go.Proofs.YtcbpnbfkjdmfgaaDoor.Sha
