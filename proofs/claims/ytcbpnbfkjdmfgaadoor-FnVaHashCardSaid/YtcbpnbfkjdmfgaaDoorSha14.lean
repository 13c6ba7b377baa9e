/- The hash of some bytes by its two doors, walked. Condition: at most 4000 bytes. -/
import Derived.Test.YtcbpnbfkjdmfgaaDoorSha13
set_option linter.unusedVariables false
namespace Go.Proofs.YtcbpnbfkjdmfgaaDoor.Sha
open Go.ChangeShapes Go.WideShapes Go.ChangeAt Go.RowKit
open Go.Proofs.YtcbpnbfkjdmfgaaDoor.Dig Go.Proofs.YtcbpnbfkjdmfgaaDoor.Mem Go.Proofs.YtcbpnbfkjdmfgaaDoor.Rb

def hsh (p : List Nat) : List Nat := (sha p).take 20
theorem hsh_length (p : List Nat) : (hsh p).length = 20 := by unfold hsh; rw [List.length_take, sha_length]; rfl
theorem hsh_byte (p : List Nat) : ∀ v ∈ hsh p, v < 256 := fun v hv => outb_byte _ _ v (List.mem_of_mem_take hv)
theorem size20 {xs : List Nat} (h : xs.length = 20) : (Tryd.prog.info? 23).map (·.size) = some (bs xs).toArray.size := by rw [info20, bs20 h]

set_option maxRecDepth 100000 in
theorem implHashOf (w : World) (a : Option Addr) (c n : Nat) (p : List Nat) (h : RB w a n c p) (K : KG w) (hn : n ≤ 4000) :
    Calls Tryd.prog 4 #[.slice a n c] w fun e w' => e = .returned (.agg (bs (hsh p)).toArray) ∧ Below w.heap.size w w' := by
  have hz := zero20
  have B0 := Lib.hid (hb8 w Z20 23)
  have X0 := Lib.hid (heap_alloc_new w (.cells Z20 23))
  have HO := Lib.hid (hashOf (w.alloc (.cells Z20 23)) a c n p (h.below B0.out (Nat.le_refl _)) (K.below B0.out K.1) hn)
  have S20 := Lib.hid (size20 (hsh_length p))
  have Z0 := Lib.hid (show Z20.size = (bs (hsh p)).toArray.size by rw [bs20 (hsh_length p)]; rfl)
  obtain ⟨hs, hhs⟩ : ∃ hs, hs = hsh p := ⟨_, rfl⟩
  have HHS := Lib.hid hhs
  rw [← hhs] at S20 Z0 ⊢
  clear h K hhs
  go_enter Tryd.func4, Tryd.ntmps4
  go_wp2_with (first
    | (go_at_call 12; (with_reducible refine HO.out.mono ?_); rintro e w1 ⟨rfl, hb⟩; have X1 := Lib.hid ((hb.block w.heap.size (by simp)).trans X0.out); have B1 := Lib.hid (B0.out.trans (hb.mono (by simp))); clear hb)
    | (refine wpList_store_row rfl 23 (.tmp 2) (.tmp 4) rfl w.heap.size (bs hs).toArray rfl (by rw [HHS.out]; rfl) 23 Z20 X1.out S20.out Z0.out (bs_one _) ?_))
  refine bodyPost_ret (results_cell_row rfl _ _ w.heap.size 23 (bs hs).toArray (0, 0) _ rfl (setRow_heap _ _ _ _ _ _ X1.out) Tryd.underlying23 rfl S20.out) rfl ?_
  exact ⟨rfl, below_setRow B1.out (Nat.le_refl _) _⟩

/-- The first bytes so far. -/
def part (s : List Nat) (i : Nat) : List Nat := s.take i ++ List.replicate (20 - i) 0
theorem part_length (s : List Nat) (i : Nat) (hs : 20 ≤ s.length) (h : i ≤ 20) : (part s i).length = 20 := by
  unfold part; rw [List.length_append, List.length_take, List.length_replicate]; omega
theorem part_set (s : List Nat) (i : Nat) (hs : 20 ≤ s.length) (h : i < 20) : (bs (part s i)).toArray.setIfInBounds i (.int .u8 ((s.getD i 0 : Nat) : Int)) = (bs (part s (i + 1))).toArray := by
  unfold part
  rw [show 20 - i = (20 - (i + 1)) + 1 by omega, List.replicate_succ, List.take_succ_eq_append_getElem (by omega)]
  simp only [bs, List.setIfInBounds_toArray]
  congr 1
  rw [List.map_append, List.set_append_right _ _ (by rw [List.length_map, List.length_take]; omega), List.length_map, List.length_take, show i - min i s.length = 0 by omega, List.map_cons, List.set_cons_zero, List.map_append, List.map_append, List.append_assoc, List.getD_eq_getElem?_getD, List.getElem?_eq_getElem (by omega)]
  rfl

set_option maxRecDepth 100000 in
set_option maxHeartbeats 1000000 in
theorem specHashOf (w : World) (a : Option Addr) (c n : Nat) (p : List Nat) (h : RB w a n c p) (hnc : a = none → c = 0) (hn : n ≤ 4000) :
    Calls Tryd.prog 9 #[.slice a n c] w fun e w' => e = .returned (.agg (bs (hsh p)).toArray) ∧ Below w.heap.size w w' := by
  have hz := zero20
  have hz1 := zero64
  have B0 := Lib.hid (hb8 w Z20 23)
  have X0 := Lib.hid (heap_alloc_new w (.cells Z20 23))
  have HO := Lib.hid (specSha (w.alloc (.cells Z20 23)) a c n p (h.below B0.out (Nat.le_refl _)) hnc hn)
  have S64 := Lib.hid (show (Tryd.prog.info? 37).map (·.size) = some (bs (sha p)).toArray.size from size64 _)
  have Z64 := Lib.hid (show z64.size = (bs (sha p)).toArray.size by simp [z64, bs, sha_length])
  have SL := Lib.hid (sha_length p)
  obtain ⟨s, hs⟩ : ∃ s, s = sha p := ⟨_, rfl⟩
  have HS := Lib.hid hs
  rw [← hs] at HO S64 Z64 SL
  clear h hnc hs
  go_enter Tryd.func9, Tryd.ntmps9
  go_wp2_with (first
    | (go_at_call 19; (with_reducible refine HO.out.mono ?_); rintro e w1 ⟨rfl, hb⟩; have X1 := Lib.hid ((hb.block w.heap.size (by simp)).trans X0.out); have B1 := Lib.hid (B0.out.trans (hb.mono (by simp))); have L1 := lt_of_heap X1.out; clear hb)
    | (with_reducible refine store_new (A := z64) (t := 37) rfl 37 (.tmp 3) (.tmp 7) rfl (bs s).toArray rfl rfl S64.out Z64.out (bs_one _) ?_))
  go_loopw [5] (fun iv wi => ∃ i : Nat, i ≤ 20 ∧ iv = .int .i64 (i : Int) ∧ wi.heap[w1.heap.size]? = some (.cells (bs s).toArray 37 (0, 0)) ∧ wi.heap[w1.heap.size + 1]? = some (.cells (bs (part s i)).toArray 23 (0, 0)) ∧ wi.heap[w.heap.size]? = some (.cells Z20 23 (0, 0)) ∧ Below w.heap.size w wi) (fun iv _ => 20 - (intOf iv).toNat)
  case atStart =>
    refine ⟨0, by omega, rfl, heap_old2 w1 _ _, heap_new2 w1 _ _, ?_, (B1.out.alloc (by omega) _).alloc (by simp; omega) _⟩
    have e1 := Below.heap_alloc (w1.alloc (.cells (bs s).toArray 37)) (.cells Z20 23) w.heap.size (by simp; omega)
    have e2 := Below.heap_alloc w1 (.cells (bs s).toArray 37) w.heap.size L1
    exact e1.trans (e2.trans X1.out)
  case round =>
    obtain ⟨i, hi, rfl, hA, hO, hR, hbel⟩ := hrel
    have hs20 : 20 ≤ s.length := by rw [SL.out]; omega
    by_cases hlt : i < 20
    · have hki : (i : Int) < 20 := by omega
      have ca := bytes_of hA i (by omega)
      have co := bytes_of hO i (by rw [part_length s i hs20 hi]; exact hlt)
      rw [Nat.zero_add] at ca co
      have ff := ifree hO i
      obtain ⟨x, hx⟩ : ∃ x, x = s.getD i 0 := ⟨_, rfl⟩
      rw [← hx] at ca
      have i64 : i < 64 := by omega
      have HX := Lib.hid hx
      have HA := Lib.hid hA
      have HO2 := Lib.hid hO
      have HR := Lib.hid hR
      clear hx hA hO hR
      go_wp2_with fail
      go_roundw
      case rel =>
        have e := setCell_heap (t := i) (v := .int .u8 (x : Int)) HO2.out
        rw [HX.out, part_set s i hs20 hlt] at e
        rw [← HX.out] at e
        exact ⟨i + 1, by omega, by go_num, (setCell_other (by omega)).trans HA.out, e, (setCell_other (by omega)).trans HR.out, hbel.setCell (by show w.heap.size ≤ w1.heap.size + 1; omega) _⟩
      case measure => simp [intOf]; omega
    · obtain rfl : i = 20 := by omega
      have e20 : part s 20 = hsh p := by unfold part hsh; rw [← HS.out, Nat.sub_self, List.replicate_zero, List.append_nil]
      rw [e20] at hO
      have S20 := Lib.hid (size20 (hsh_length p))
      have Z0 := Lib.hid (show Z20.size = (bs (hsh p)).toArray.size by rw [bs20 (hsh_length p)]; rfl)
      obtain ⟨hs, hhs⟩ : ∃ hs, hs = hsh p := ⟨_, rfl⟩
      rw [← hhs] at hO S20 Z0
      have HHS := Lib.hid hhs
      have HO2 := Lib.hid hO
      have HR := Lib.hid hR
      clear hA hO hR hhs e20
      go_wp2_with (first
        | (with_reducible refine wpList_load_row rfl 23 (.tmp 4) rfl (w1.heap.size + 1) rfl 23 (bs hs).toArray (0, 0) _ HO2.out Tryd.underlying23 rfl S20.out ?_)
        | (with_reducible refine wpList_store_row rfl 23 (.tmp 2) (.tmp 17) rfl w.heap.size (bs hs).toArray rfl rfl 23 Z20 HR.out S20.out Z0.out (bs_one _) ?_))
      refine bodyPost_ret (results_cell_row rfl _ _ w.heap.size 23 (bs hs).toArray (0, 0) _ rfl (setRow_heap _ _ _ _ _ _ HR.out) Tryd.underlying23 rfl S20.out) rfl ?_
      exact ⟨by rw [HHS.out], below_setRow hbel (Nat.le_refl _) _⟩
end Go.Proofs.YtcbpnbfkjdmfgaaDoor.Sha
