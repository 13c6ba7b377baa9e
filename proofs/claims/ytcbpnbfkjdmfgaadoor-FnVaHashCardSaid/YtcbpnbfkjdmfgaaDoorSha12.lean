/- SHA-512's digest: what the library tells at the end, walked. Condition: at most 4000 bytes. -/
import Derived.Test.YtcbpnbfkjdmfgaaDoorSha11
import Derived.Deep.DeepCutAuto
set_option linter.unusedVariables false
namespace Go.Proofs.YtcbpnbfkjdmfgaaDoor.Sha
open Go.ChangeShapes Go.WideShapes Go.ChangeAt Go.RowKit
open Go.Proofs.YtcbpnbfkjdmfgaaDoor.Dig Go.Proofs.YtcbpnbfkjdmfgaaDoor.Mem Go.Proofs.YtcbpnbfkjdmfgaaDoor.Rb

def z144 : List Nat := List.replicate 144 0
theorem zero144 (w : World) : (zeroValue 62).run Tryd.prog w = .ok (.agg (bs z144).toArray) w := by kernel_rfl
theorem ht144 : Tryd.prog.underlying 62 = some (.array (Tryd.prog.arrayLen 62) (Tryd.prog.elem 62)) := by kernel_rfl
theorem len144 : Tryd.prog.arrayLen 62 = 144 := by kernel_rfl
theorem el144 (w : World) : (sizeOf (Tryd.prog.elem 62)).run Tryd.prog w = .ok 1 w := by kernel_rfl
theorem at_h144 (b h : Nat) (h0 : h ≤ 144) (w : World) : (Instr.sliceAt 62 (.pointer (some ⟨b, 0, none⟩)) none (some (.int .u64 (h : Int))) none).run Tryd.prog w = .ok (.slice (some ⟨b, 0, none⟩) h 144) w := by
  rw [run_sliceAt_array_h w 62 _ ht144 .u64 (h : Int) (by omega) (by rw [len144]; omega), el144, len144]
  simp only [Result.andThen, slicedAt, Int.toNat_natCast, Nat.zero_mul]
  rw [if_neg (by omega)]
  simp [Addr.add]
/-- How many bytes fill up; the bytes. -/
def tOf (n : Nat) : Nat := zc n + 1
def tailOf (n : Nat) : List Nat := [128] ++ (List.replicate (zc n) 0 ++ (List.replicate 8 0 ++ beb (8 * n) 8))
theorem tailOf_length (n : Nat) : (tailOf n).length = tOf n + 16 := by
  unfold tailOf tOf
  rw [List.length_append, List.length_append, List.length_append, beb_length, List.length_replicate, List.length_replicate]
  simp only [List.length_cons, List.length_nil]
  omega
theorem padOf_tail (p : List Nat) : padOf p = p ++ tailOf p.length := rfl
theorem beI_beb (v : Nat) : ∀ k, beI (v : Int) k = (List.range k).map fun j => v / 2 ^ (56 - 8 * j) % 256 := fun k => by
  unfold beI
  refine List.map_congr_left fun j _ => ?_
  have : ((v : Int) / 2 ^ (56 - 8 * j) % 256) = ((v / 2 ^ (56 - 8 * j) % 256 : Nat) : Int) := by
    rw [Int.natCast_emod, Int.natCast_ediv, Int.natCast_pow]
    rfl
  rw [this, Int.toNat_natCast]
theorem beI_eq (v : Nat) : beI (v : Int) 8 = beb v 8 := by
  rw [beI_beb]
  unfold beb
  refine List.map_congr_left fun j hj => ?_
  have hj : j < 8 := List.mem_range.1 hj
  rw [show (256 : Nat) = 2 ^ 8 from rfl, ← Nat.pow_mul]
  congr 3
  omega
/-- What is taken in at the end. -/
def bufOf (n : Nat) : List Nat := putI (128 :: List.replicate 143 0) (tOf n + 8) ((8 * n : Nat) : Int) 8
theorem bufOf_take (n : Nat) : (bufOf n).take (tOf n + 16) = tailOf n := by
  have ht : tOf n ≤ 128 := by unfold tOf zc; omega
  unfold bufOf putI
  rw [beI_eq]
  have e1 : (128 :: List.replicate 143 0).take (tOf n + 8) = [128] ++ (List.replicate (zc n) 0 ++ List.replicate 8 0) := by
    show (128 :: List.replicate 143 0).take (zc n + 8 + 1) = _
    rw [List.take_succ_cons, List.take_replicate, List.replicate_append_replicate]
    have : min (zc n + 8) 143 = zc n + 8 := by unfold tOf at ht; omega
    rw [this]
    rfl
  have el : ([128] ++ (List.replicate (zc n) 0 ++ List.replicate 8 0) ++ beb (8 * n) 8).length = tOf n + 16 := by
    rw [List.length_append, List.length_append, List.length_append, beb_length, List.length_replicate, List.length_replicate]
    unfold tOf
    simp only [List.length_cons, List.length_nil]
    omega
  rw [e1, ← List.append_assoc, ← el, List.take_left]
  unfold tailOf
  simp only [List.append_assoc]
theorem outb_eight (L : List Int) (i : Nat) : outb L (8 * (i + 1)) = outb L (8 * i) ++ beI (L.getD i 0) 8 := by
  unfold outb beI
  rw [show 8 * (i + 1) = 8 * i + 8 by omega, List.range_add, List.map_append, List.map_map]
  congr 1
  refine List.map_congr_left fun j hj => ?_
  have hj : j < 8 := List.mem_range.1 hj
  show (L.getD ((8 * i + j) / 8) 0 / 2 ^ (56 - 8 * ((8 * i + j) % 8)) % 256).toNat = _
  rw [show (8 * i + j) / 8 = i by omega, show (8 * i + j) % 8 = j by omega]
/-- The digest's bytes so far. -/
def outRow (L : List Int) (i : Nat) : List Nat := outb L (8 * i) ++ List.replicate (64 - 8 * i) 0
theorem outRow_length (L : List Int) (i : Nat) (h : i ≤ 8) : (outRow L i).length = 64 := by
  unfold outRow; rw [List.length_append, outb_length, List.length_replicate]; omega
theorem outRow_put (L : List Int) (i : Nat) (h : i < 8) : putI (outRow L i) (8 * i) (L.getD i 0) 8 = outRow L (i + 1) := by
  unfold putI outRow
  have e1 : (outb L (8 * i) ++ List.replicate (64 - 8 * i) 0).take (8 * i) = outb L (8 * i) := by
    have := List.take_left (l₁ := outb L (8 * i)) (l₂ := List.replicate (64 - 8 * i) 0)
    rwa [outb_length] at this
  have e2 : (outb L (8 * i) ++ List.replicate (64 - 8 * i) 0).drop (8 * i + 8) = List.replicate (64 - 8 * (i + 1)) 0 := by
    rw [List.drop_append, List.drop_of_length_le (by rw [outb_length]; omega), outb_length, List.nil_append, List.drop_replicate]
    congr 1
    omega
  rw [e1, e2, outb_eight, List.append_assoc]
theorem outRow_end (L : List Int) : outRow L 8 = outb L 64 := by
  unfold outRow
  simp
theorem outRow_start (L : List Int) : outRow L 0 = List.replicate 64 0 := by
  unfold outRow outb
  simp

theorem rb_row {w : World} {b : Nat} {L : List Nat} {T : TypeId} (h : w.heap[b]? = some (.cells (bs L).toArray T (0, 0))) (hb : ∀ v ∈ L, v < 256) (k c : Nat) (hk : k ≤ L.length) (hc : k ≤ c) (hc2 : c ≤ 1000) : RB w (some ⟨b, 0, none⟩) k c (L.take k) :=
  ⟨by rw [List.length_take]; omega, hc, by unfold maxLen; omega, fun v hv => hb v (List.mem_of_mem_take hv), fun _ => ⟨b, 0, rfl, fun i hi => by
    rw [List.length_take] at hi
    rw [bytes_of h i (by omega)]
    simp [List.getD_eq_getElem?_getD, List.getElem?_take_of_lt (show i < k by omega)]⟩⟩
theorem beI_byte (v : Int) (k : Nat) : ∀ x ∈ beI v k, x < 256 := fun x hx => by
  obtain ⟨j, _, rfl⟩ := List.mem_map.1 hx
  omega
theorem bufOf_byte (n : Nat) : ∀ v ∈ bufOf n, v < 256 := fun v hv => by
  unfold bufOf putI at hv
  rcases List.mem_append.1 hv with h | h
  · have := List.mem_of_mem_take h
    simp at this
    omega
  · rcases List.mem_append.1 h with h | h
    · exact beI_byte _ _ v h
    · have := List.mem_of_mem_drop h
      simp at this
      omega
theorem bufOf_length (n : Nat) : (bufOf n).length = 144 := by
  have : tOf n ≤ 128 := by unfold tOf zc; omega
  unfold bufOf
  rw [putI_length]
  · simp
  · simp; omega
theorem pad_comps (p x : List Nat) (n : Nat) (hp : p.length = n) (hx : x.take (n % 128) = p.drop (128 * (n / 128))) :
    comps KK S0 (padOf p) ((padOf p).length / 128) = comps KK (comps KK S0 p (n / 128)) (x.take (n % 128) ++ tailOf n) ((n % 128 + (tOf n + 16)) / 128) := by
  have e1 : padOf p = p.take (128 * (n / 128)) ++ (x.take (n % 128) ++ tailOf n) := by
    rw [padOf_tail, hp, hx, ← List.append_assoc, List.take_append_drop]
  have e2 : (padOf p).length / 128 = n / 128 + (n % 128 + (tOf n + 16)) / 128 := by
    rw [padOf_length, hp]
    unfold tOf
    omega
  rw [e2, e1, comps_add KK S0 _ _ (n / 128) (by rw [List.length_take]; omega), comps_take KK S0 p (n / 128) (by omega)]

theorem writeEnd (w : World) (g b n : Nat) (p x : List Nat) (D : Dg w g (comps KK S0 p (n / 128)).list x ((n % 128 : Nat) : Int) (n : Int)) (hx : x.take (n % 128) = p.drop (128 * (n / 128))) (hxb : ∀ v ∈ x, v < 256) (hp : p.length = n) (K : KG w) (hg0 : 0 < g) (hn : n ≤ 4000) (hb : b ≠ g) (R : RB w (some ⟨b, 0, none⟩) (tOf n + 16) 144 (tailOf n)) :
    Calls Tryd.prog 22 #[.pointer (some ⟨g, 0, none⟩), .slice (some ⟨b, 0, none⟩) (tOf n + 16) 144] w fun e w' => e = .returned (.tuple #[.int .i64 ((tOf n + 16 : Nat) : Int), .nilIface]) ∧ (∃ x' l', Dg w' g (comps KK S0 (padOf p) ((padOf p).length / 128)).list x' 0 l') ∧ Wr g w w' := by
  have hne : 0 < tOf n + 16 → ∀ b' o, (some (⟨b, 0, none⟩ : Addr)) = some ⟨b', o, none⟩ → b' ≠ g := fun _ b' o h => by
    injection h with h
    injection h with h1
    subst h1
    exact hb
  rw [pad_comps p x n hp hx]
  by_cases h0 : n % 128 = 0
  · have ht : tOf n = 112 := by unfold tOf zc; omega
    rw [h0] at D
    refine (writeA w g (comps KK S0 p (n / 128)) x n D K hg0 _ 144 (tOf n + 16) (tailOf n) R hne (by omega) (by omega)).mono ?_
    rintro e w' ⟨rfl, hd, hw⟩
    refine ⟨rfl, ⟨rest x (tailOf n) (tOf n + 16), (n : Int) + ((tOf n + 16 : Nat) : Int), ?_⟩, hw⟩
    rw [h0, List.take_zero, List.nil_append, Nat.zero_add]
    rw [ht] at hd ⊢
    exact hd
  · exact writeB w g (comps KK S0 p (n / 128)) x (n % 128) n D K hg0 _ 144 (tOf n + 16) (tailOf n) R hne hxb (by omega) (by omega) (by omega) (by unfold tOf zc; omega)

theorem wr_end {w W0 w1 w2 : World} {g b : Nat} {ob : Obj} (h0 : Below w.heap.size w W0) (h1 : Wr b W0 w1) (h2 : Wr g w1 w2) (hb : w.heap.size ≤ b ∧ w.heap.size ≤ W0.heap.size) : Wr g w (w2.alloc ob) := by
  have h3 := (h0.trans (h1.below hb.1 hb.2))
  have h4 : Wr g w w1 := Wr.of_below h3
  have h5 := h4.trans h2
  exact h5.trans (Wr.of_below ((Below.refl _ _).alloc (Nat.le_refl _) _))
theorem wr_row {w w1 : World} {g b : Nat} {A : Array Value} (h : Wr g w w1) (hb : w.heap.size ≤ b := by exact Nat.le_refl _) : Wr g w (w1.setRow b A) :=
  ⟨h.os, h.tape, h.output, by simpa using h.size, fun k hk hg => (setRow_other _ _ _ _ (by omega)).trans (h.block k hk hg)⟩
/-- What stands while the digest is laid out. -/
structure Fin (w0 w : World) (g db : Nat) (H : List Int) (x : List Nat) (l : Int) (L : List Nat) : Prop where
  dg : Dg w g H x 0 l
  row : w.heap[db]? = some (.cells (bs L).toArray 37 (0, 0))
  res : w.heap[w0.heap.size]? = some (.cells z64 37 (0, 0))
  wr : Wr g w0 w
  lt : w0.heap.size < db
  gl : g < w0.heap.size
theorem Fin.drewN {w0 w : World} {g db : Nat} {H : List Int} {x L : List Nat} {l : Int} (f : Fin w0 w g db H x l L) (m : Nat) : Fin w0 (w.drewN m) g db H x l L :=
  ⟨f.dg.later (bdn (Below.refl _ _) m) (Nat.lt_succ_self g), f.row, f.res, f.wr.drewN m, f.lt, f.gl⟩
theorem Fin.put {w0 w w' : World} {g db : Nat} {H : List Int} {x L L' : List Nat} {l : Int} (f : Fin w0 w g db H x l L) (hr : w'.heap[db]? = some (.cells (bs L').toArray 37 (0, 0))) (hw : Wr db w w') : Fin w0 w' g db H x l L' := by
  have h1 := f.lt
  have h2 := f.gl
  have h3 : w0.heap.size < w.heap.size := by
    rcases Nat.lt_or_ge w0.heap.size w.heap.size with h | h
    · exact h
    · have := f.res; rw [Array.getElem?_eq_none h] at this; cases this
  refine ⟨f.dg.other hw (by omega), hr, (hw.block _ h3 (by omega)).trans f.res, ?_, h1, h2⟩
  exact ⟨hw.os.trans f.wr.os, hw.tape.trans f.wr.tape, hw.output.trans f.wr.output, Nat.le_trans f.wr.size hw.size, fun k hk hg => (hw.block k (by omega) (by omega)).trans (f.wr.block k hk hg)⟩

set_option maxRecDepth 100000 in
set_option maxHeartbeats 4000000 in
theorem checkSum (w : World) (g n : Nat) (p x : List Nat) (D : Dg w g (comps KK S0 p (n / 128)).list x ((n % 128 : Nat) : Int) (n : Int)) (hx : x.take (n % 128) = p.drop (128 * (n / 128))) (hxb : ∀ v ∈ x, v < 256) (hp : p.length = n) (K : KG w) (hg0 : 0 < g) (hn : n ≤ 4000) :
    Calls Tryd.prog 34 #[.pointer (some ⟨g, 0, none⟩)] w fun e w' => e = .returned (.agg (bs (sha p)).toArray) ∧ Wr g w w' := by
  obtain ⟨r, hr⟩ : ∃ r, r = n % 128 := ⟨_, rfl⟩
  obtain ⟨T, hT⟩ : ∃ T, T = tOf n := ⟨_, rfl⟩
  have hTr : (r < 112 → T + r = 112) ∧ (112 ≤ r → T + r = 240) := by rw [hT, hr]; unfold tOf zc; omega
  have hT128 : T ≤ 128 := by omega
  have hT0 : 0 < T := by omega
  obtain ⟨T16, hT16⟩ : ∃ t, t = T + 16 := ⟨_, rfl⟩
  obtain ⟨T8, hT8⟩ : ∃ t, t = T + 8 := ⟨_, rfl⟩
  have DT := Lib.hid D
  have hgl := D.lt
  obtain ⟨n1, n2, n3⟩ := DT.out.n_at
  have er : (n : Int) % 128 = (r : Int) := by omega
  have e16 : (T : Int) + 16 = (T16 : Int) := by omega
  have e8 : (T : Int) + 8 = (T8 : Int) := by omega
  have e3 : IntKind.u64.wrap ((n : Int) * 8) = ((8 * n : Nat) : Int) := by rw [IntKind.wrap_u64]; omega
  have hz1 := zero64
  have hz2 := zero144
  have hsl := fun b => at_h144 b T16 (by omega)
  have HR := Lib.hid hr
  have HT := Lib.hid hT
  have HT16 := Lib.hid hT16
  have HT8 := Lib.hid hT8
  have i16 : T16 ≤ 144 := by omega
  have i8 : T8 ≤ T16 := by omega
  clear D hr hT hT16 hT8
  have W0r : ((w.alloc (.cells z64 37)).alloc (.cells ((bs z144).set 0 (.int .u8 128)).toArray 62)).heap[w.heap.size + 1]? = some (.cells (bs (128 :: List.replicate 143 0)).toArray 62 (0, 0)) := heap_new2 w _ _
  obtain ⟨W0, hW0⟩ : ∃ W, W = (w.alloc (.cells z64 37)).alloc (.cells ((bs z144).set 0 (.int .u8 128)).toArray 62) := ⟨_, rfl⟩
  have hb0 : Below w.heap.size w W0 := by rw [hW0]; exact ((Below.refl _ _).alloc (Nat.le_refl _) _).alloc (by simp) _
  have hs0 : W0.heap.size = w.heap.size + 2 := by rw [hW0]; simp
  have hres : W0.heap[w.heap.size]? = some (.cells z64 37 (0, 0)) := by rw [hW0]; exact heap_old2 w _ _
  rw [← hW0] at W0r
  have BP := Lib.hid (bePut W0 (w.heap.size + 1) T8 (T16 - T8) (144 - T8) 62 (128 :: List.replicate 143 0) (8 * (n : Int)) W0r (by have := HT8.out; have := HT16.out; omega) (by omega) (by omega) (by have := HT8.out; simp; omega))
  have HW0 := Lib.hid hW0
  have HB0 := Lib.hid hb0
  have HS0 := Lib.hid hs0
  have HRES := Lib.hid hres
  have KK0 := Lib.hid (K.below hb0 (by have := K.1; omega))
  have DW0 := Lib.hid (DT.out.later hb0 hgl)
  have WE := Lib.hid (fun w1 (hrow : w1.heap[w.heap.size + 1]? = some (.cells (bs (putI (128 :: List.replicate 143 0) T8 (8 * (n : Int)) 8)).toArray 62 (0, 0))) (hw : Wr (w.heap.size + 1) W0 w1) => writeEnd w1 g (w.heap.size + 1) n p x (DW0.out.other hw (by omega)) hx hxb hp (KK0.out.wr hw (by omega)) hg0 hn (by omega) (by
    have eb : putI (128 :: List.replicate 143 0) T8 (8 * (n : Int)) 8 = bufOf n := by
      unfold bufOf
      rw [HT8.out, HT.out, Int.natCast_mul]
      rfl
    rw [eb] at hrow
    have := rb_row hrow (bufOf_byte n) (tOf n + 16) 144 (by rw [bufOf_length]; have := HT.out; omega) (by have := HT.out; omega) (by omega)
    rwa [bufOf_take] at this))
  have ET := Lib.hid (show tOf n + 16 = T16 by rw [HT16.out, HT.out])
  clear hW0 hb0 hs0 hres W0r K hx hxb hp
  go_enter Tryd.func34, Tryd.ntmps34
  go_upto_if 15 with (fail)
  rw [← HW0.out]
  go_cut [5] (fun tv wx => tv = .int .u64 (T : Int) ∧ wx = W0)
  case first =>
    by_cases hlt : r < 112
    · have hki : (r : Int) < 112 := by omega
      have eT : (112 : Int) - (r : Int) = (T : Int) := by omega
      clear hTr
      go_wp2_with fail
      go_meet
      case rel => exact ⟨rfl, rfl⟩
    · have hki : ¬ (r : Int) < 112 := by omega
      have eT : (240 : Int) - (r : Int) = (T : Int) := by omega
      clear hTr
      go_wp2_with fail
      go_meet
      case rel => exact ⟨rfl, rfl⟩
  case rest =>
    obtain ⟨rfl, rfl⟩ := hcut
    go_wp2_with (first
      | (go_at_call 36; (with_reducible refine BP.out.mono ?_); rintro e w1 ⟨rfl, hrow, hw⟩; have WW := Lib.hid (WE.out w1 hrow hw); rw [ET.out] at WW; have W1 := Lib.hid hw; clear hrow hw)
      | (go_at_call 22; (with_reducible refine WW.out.mono ?_); rintro e w2 ⟨rfl, ⟨x2, l2, hd⟩, hw⟩; have D2 := Lib.hid hd; have W2 := Lib.hid hw; clear hd hw; have m8 := D2.out.n_at.1))
    obtain ⟨S, hS⟩ : ∃ S, S = comps KK S0 (padOf p) ((padOf p).length / 128) := ⟨_, rfl⟩
    rw [← hS] at D2
    have HSS := Lib.hid hS
    obtain ⟨H, hH⟩ : ∃ H, H = S.list := ⟨_, rfl⟩
    rw [← hH] at D2
    have HH := Lib.hid hH
    have sz1 := W1.out.size
    have sz2 := W2.out.size
    have hdb : w.heap.size < w2.heap.size := by have := HS0.out; omega
    have hz3 : (w2.alloc (.cells z64 37)).heap[w2.heap.size]? = some (.cells (bs (outRow H 0)).toArray 37 (0, 0)) := by rw [outRow_start]; exact heap_alloc_new _ _
    have F0 := Lib.hid (show Fin w (w2.alloc (.cells z64 37)) g w2.heap.size H x2 l2 (outRow H 0) from
      ⟨D2.out.later (hb8 w2 z64 37) D2.out.lt, hz3, by
        have e1 := (hb8 w2 z64 37).block w.heap.size hdb
        have e2 := W2.out.block w.heap.size (by have := HS0.out; omega) (by omega)
        have e3 := W1.out.block w.heap.size (by have := HS0.out; omega) (by omega)
        rw [e1, e2, e3]
        exact HRES.out, wr_end HB0.out W1.out W2.out (by have := HS0.out; omega), hdb, hgl⟩)
    clear hS hH hz3 n1 n2 n3 m8
    have c0 := F0.out.dg.h_at (i := 0) (by omega)
    obtain ⟨y0, hy0⟩ : ∃ y, y = H.getD 0 0 := ⟨_, rfl⟩
    rw [← hy0] at c0
    have HY0 := Lib.hid hy0
    clear hy0
    refine region_quiet_tail 6 (C := fun w' => ∃ m, w' = (w2.alloc (.cells z64 37)).drewN m) (by kernel_rfl) (by kernel_rfl) ⟨1, rfl⟩ ?_
    simp only [List.take_succ_cons, List.take_zero, List.drop_succ_cons, List.drop_zero]
    iterate 6 go_big_quiet_step (fail)
    refine wpQuiet_nil ?_
    rintro _ ⟨m0, rfl⟩
    have G0 := Lib.hid (F0.out.drewN m0)
    have B0 := Lib.hid (bePut _ w2.heap.size 0 64 64 37 (outRow H 0) y0 G0.out.row (by omega) (by omega) (by omega) (by rw [outRow_length _ _ (by omega)]; omega))
    clear c0
    go_wp2_with (go_at_call 36; (with_reducible refine B0.out.mono ?_); rintro e v1 ⟨rfl, hrow, hw⟩; have F1 := Lib.hid (G0.out.put hrow hw); rw [HY0.out, show 0 = 8 * 0 from rfl, outRow_put H 0 (by omega)] at F1; clear hrow hw)
    have c1 := F1.out.dg.h_at (i := 1) (by omega)
    obtain ⟨y1, hy1⟩ : ∃ y, y = H.getD 1 0 := ⟨_, rfl⟩
    rw [← hy1] at c1
    have HY1 := Lib.hid hy1
    clear hy1
    refine region_quiet_tail 6 (C := fun w' => ∃ m, w' = v1.drewN m) (by kernel_rfl) (by kernel_rfl) ⟨1, rfl⟩ ?_
    simp only [List.take_succ_cons, List.take_zero, List.drop_succ_cons, List.drop_zero]
    iterate 6 go_big_quiet_step (fail)
    refine wpQuiet_nil ?_
    rintro _ ⟨m1, rfl⟩
    have G1 := Lib.hid (F1.out.drewN m1)
    have B1 := Lib.hid (bePut _ w2.heap.size 8 56 56 37 (outRow H 1) y1 G1.out.row (by omega) (by omega) (by omega) (by rw [outRow_length _ _ (by omega)]; omega))
    clear c1
    go_wp2_with (go_at_call 36; (with_reducible refine B1.out.mono ?_); rintro e v2 ⟨rfl, hrow, hw⟩; have F2 := Lib.hid (G1.out.put hrow hw); rw [HY1.out, show 8 = 8 * 1 from rfl, outRow_put H 1 (by omega)] at F2; clear hrow hw)
    have c2 := F2.out.dg.h_at (i := 2) (by omega)
    obtain ⟨y2, hy2⟩ : ∃ y, y = H.getD 2 0 := ⟨_, rfl⟩
    rw [← hy2] at c2
    have HY2 := Lib.hid hy2
    clear hy2
    refine region_quiet_tail 6 (C := fun w' => ∃ m, w' = v2.drewN m) (by kernel_rfl) (by kernel_rfl) ⟨1, rfl⟩ ?_
    simp only [List.take_succ_cons, List.take_zero, List.drop_succ_cons, List.drop_zero]
    iterate 6 go_big_quiet_step (fail)
    refine wpQuiet_nil ?_
    rintro _ ⟨m2, rfl⟩
    have G2 := Lib.hid (F2.out.drewN m2)
    have B2 := Lib.hid (bePut _ w2.heap.size 16 48 48 37 (outRow H 2) y2 G2.out.row (by omega) (by omega) (by omega) (by rw [outRow_length _ _ (by omega)]; omega))
    clear c2
    go_wp2_with (go_at_call 36; (with_reducible refine B2.out.mono ?_); rintro e v3 ⟨rfl, hrow, hw⟩; have F3 := Lib.hid (G2.out.put hrow hw); rw [HY2.out, show 16 = 8 * 2 from rfl, outRow_put H 2 (by omega)] at F3; clear hrow hw)
    have c3 := F3.out.dg.h_at (i := 3) (by omega)
    obtain ⟨y3, hy3⟩ : ∃ y, y = H.getD 3 0 := ⟨_, rfl⟩
    rw [← hy3] at c3
    have HY3 := Lib.hid hy3
    clear hy3
    refine region_quiet_tail 6 (C := fun w' => ∃ m, w' = v3.drewN m) (by kernel_rfl) (by kernel_rfl) ⟨1, rfl⟩ ?_
    simp only [List.take_succ_cons, List.take_zero, List.drop_succ_cons, List.drop_zero]
    iterate 6 go_big_quiet_step (fail)
    refine wpQuiet_nil ?_
    rintro _ ⟨m3, rfl⟩
    have G3 := Lib.hid (F3.out.drewN m3)
    have B3 := Lib.hid (bePut _ w2.heap.size 24 40 40 37 (outRow H 3) y3 G3.out.row (by omega) (by omega) (by omega) (by rw [outRow_length _ _ (by omega)]; omega))
    clear c3
    go_wp2_with (go_at_call 36; (with_reducible refine B3.out.mono ?_); rintro e v4 ⟨rfl, hrow, hw⟩; have F4 := Lib.hid (G3.out.put hrow hw); rw [HY3.out, show 24 = 8 * 3 from rfl, outRow_put H 3 (by omega)] at F4; clear hrow hw)
    have c4 := F4.out.dg.h_at (i := 4) (by omega)
    obtain ⟨y4, hy4⟩ : ∃ y, y = H.getD 4 0 := ⟨_, rfl⟩
    rw [← hy4] at c4
    have HY4 := Lib.hid hy4
    clear hy4
    refine region_quiet_tail 6 (C := fun w' => ∃ m, w' = v4.drewN m) (by kernel_rfl) (by kernel_rfl) ⟨1, rfl⟩ ?_
    simp only [List.take_succ_cons, List.take_zero, List.drop_succ_cons, List.drop_zero]
    iterate 6 go_big_quiet_step (fail)
    refine wpQuiet_nil ?_
    rintro _ ⟨m4, rfl⟩
    have G4 := Lib.hid (F4.out.drewN m4)
    have B4 := Lib.hid (bePut _ w2.heap.size 32 32 32 37 (outRow H 4) y4 G4.out.row (by omega) (by omega) (by omega) (by rw [outRow_length _ _ (by omega)]; omega))
    clear c4
    go_wp2_with (go_at_call 36; (with_reducible refine B4.out.mono ?_); rintro e v5 ⟨rfl, hrow, hw⟩; have F5 := Lib.hid (G4.out.put hrow hw); rw [HY4.out, show 32 = 8 * 4 from rfl, outRow_put H 4 (by omega)] at F5; clear hrow hw)
    have c5 := F5.out.dg.h_at (i := 5) (by omega)
    obtain ⟨y5, hy5⟩ : ∃ y, y = H.getD 5 0 := ⟨_, rfl⟩
    rw [← hy5] at c5
    have HY5 := Lib.hid hy5
    clear hy5
    refine region_quiet_tail 6 (C := fun w' => ∃ m, w' = v5.drewN m) (by kernel_rfl) (by kernel_rfl) ⟨1, rfl⟩ ?_
    simp only [List.take_succ_cons, List.take_zero, List.drop_succ_cons, List.drop_zero]
    iterate 6 go_big_quiet_step (fail)
    refine wpQuiet_nil ?_
    rintro _ ⟨m5, rfl⟩
    have G5 := Lib.hid (F5.out.drewN m5)
    have B5 := Lib.hid (bePut _ w2.heap.size 40 24 24 37 (outRow H 5) y5 G5.out.row (by omega) (by omega) (by omega) (by rw [outRow_length _ _ (by omega)]; omega))
    clear c5
    go_wp2_with (go_at_call 36; (with_reducible refine B5.out.mono ?_); rintro e v6 ⟨rfl, hrow, hw⟩; have F6 := Lib.hid (G5.out.put hrow hw); rw [HY5.out, show 40 = 8 * 5 from rfl, outRow_put H 5 (by omega)] at F6; clear hrow hw; have c138 := F6.out.dg.n_at.2.2)
    have c6 := F6.out.dg.h_at (i := 6) (by omega)
    obtain ⟨y6, hy6⟩ : ∃ y, y = H.getD 6 0 := ⟨_, rfl⟩
    rw [← hy6] at c6
    have HY6 := Lib.hid hy6
    clear hy6
    refine region_quiet_tail 6 (C := fun w' => ∃ m, w' = v6.drewN m) (by kernel_rfl) (by kernel_rfl) ⟨1, rfl⟩ ?_
    simp only [List.take_succ_cons, List.take_zero, List.drop_succ_cons, List.drop_zero]
    iterate 6 go_big_quiet_step (fail)
    refine wpQuiet_nil ?_
    rintro _ ⟨m6, rfl⟩
    have G6 := Lib.hid (F6.out.drewN m6)
    have B6 := Lib.hid (bePut _ w2.heap.size 48 16 16 37 (outRow H 6) y6 G6.out.row (by omega) (by omega) (by omega) (by rw [outRow_length _ _ (by omega)]; omega))
    clear c6
    go_wp2_with (go_at_call 36; (with_reducible refine B6.out.mono ?_); rintro e v7 ⟨rfl, hrow, hw⟩; have F7 := Lib.hid (G6.out.put hrow hw); rw [HY6.out, show 48 = 8 * 6 from rfl, outRow_put H 6 (by omega)] at F7; clear hrow hw)
    have c7 := F7.out.dg.h_at (i := 7) (by omega)
    obtain ⟨y7, hy7⟩ : ∃ y, y = H.getD 7 0 := ⟨_, rfl⟩
    rw [← hy7] at c7
    have HY7 := Lib.hid hy7
    clear hy7
    refine region_quiet_tail 6 (C := fun w' => ∃ m, w' = v7.drewN m) (by kernel_rfl) (by kernel_rfl) ⟨1, rfl⟩ ?_
    simp only [List.take_succ_cons, List.take_zero, List.drop_succ_cons, List.drop_zero]
    iterate 6 go_big_quiet_step (fail)
    refine wpQuiet_nil ?_
    rintro _ ⟨m7, rfl⟩
    have G7 := Lib.hid (F7.out.drewN m7)
    have B7 := Lib.hid (bePut _ w2.heap.size 56 8 8 37 (outRow H 7) y7 G7.out.row (by omega) (by omega) (by omega) (by rw [outRow_length _ _ (by omega)]; omega))
    clear c7
    have SZ := Lib.hid (size64 H)
    have ZZ := Lib.hid (show z64.size = (bs (outb H 64)).toArray.size by simp [z64, bs, outb])
    go_wp2_with (first
      | (go_at_call 36; (with_reducible refine B7.out.mono ?_); rintro e v8 ⟨rfl, hrow, hw⟩; have F8 := Lib.hid (G7.out.put hrow hw); rw [HY7.out, show 56 = 8 * 7 from rfl, outRow_put H 7 (by omega), outRow_end] at F8; clear hrow hw)
      | (with_reducible refine wpList_load_row rfl 37 (.tmp 7) rfl w2.heap.size rfl 37 (bs (outb H 64)).toArray (0, 0) _ F8.out.row Tryd.underlying37 rfl SZ.out ?_)
      | (with_reducible refine wpList_store_row rfl 37 (.tmp 2) (.tmp 103) rfl w.heap.size (bs (outb H 64)).toArray rfl rfl 37 z64 F8.out.res SZ.out ZZ.out (bs_one _) ?_))
    refine bodyPost_ret (results_cell_row rfl _ _ w.heap.size 37 (bs (outb H 64)).toArray (0, 0) _ rfl (setRow_heap _ _ _ _ _ _ F8.out.res) Tryd.underlying37 rfl SZ.out) rfl ?_
    have es : sha p = outb H 64 := by
      unfold sha
      rw [HH.out, HSS.out]
    rw [es]
    exact ⟨rfl, wr_row F8.out.wr⟩
end Go.Proofs.YtcbpnbfkjdmfgaaDoor.Sha
