/- The statement FnVaHashOrder, walked: it returns true and turns no memory that was there. Condition: two arrays of twenty bytes. -/
import Derived.Test.YtbenpkonepfipaaOrd3
import Derived.WalkLawsBesides
import Derived.Deep.CutRange
import Derived.Deep.DeepCutAuto
set_option linter.unusedVariables false
namespace Go.Proofs.Ytbenpkonepfipaa.LawOrder
open Go.ChangeShapes Go.WideShapes Go.ChangeAt Go.RowKit
open Go.Proofs.Ytbenpkonepfipaa.Dig Go.Proofs.Ytbenpkonepfipaa.Mem Go.Proofs.Ytbenpkonepfipaa.Enc Go.Proofs.Ytbenpkonepfipaa.Ord
open BigFrame

theorem less_ord : ∀ {x y : List Nat}, (∀ d ∈ x, d < 256) → (∀ d ∈ y, d < 256) → Op.bytesLess (u8s x) (u8s y) = decide (ord x y = -1)
  | [], [], _, _ => by simp [u8s, Op.bytesLess, ord]
  | [], _ :: _, _, _ => by simp [u8s, Op.bytesLess, ord]
  | _ :: _, [], _, _ => by simp [u8s, Op.bytesLess, ord]
  | a :: x, b :: y, hx, hy => by
    have ih := less_ord (x := x) (y := y) (fun d hd => hx d (List.mem_cons_of_mem _ hd)) (fun d hd => hy d (List.mem_cons_of_mem _ hd))
    have ha := hx a (List.mem_cons_self ..)
    have hb := hy b (List.mem_cons_self ..)
    have e1 : (UInt8.ofNat a < UInt8.ofNat b) ↔ a < b := by
      rw [UInt8.lt_iff_toNat_lt, UInt8.toNat_ofNat', UInt8.toNat_ofNat', Nat.mod_eq_of_lt ha, Nat.mod_eq_of_lt hb]
    have e2 : (UInt8.ofNat a = UInt8.ofNat b) ↔ a = b := by
      rw [← UInt8.toNat_inj, UInt8.toNat_ofNat', UInt8.toNat_ofNat', Nat.mod_eq_of_lt ha, Nat.mod_eq_of_lt hb]
    simp only [u8s, List.map_cons, Op.bytesLess, ord]
    rw [show Op.bytesLess (x.map UInt8.ofNat) (y.map UInt8.ofNat) = decide (ord x y = -1) from ih]
    by_cases h1 : a < b
    · simp [e1, h1]
    · by_cases h2 : b < a
      · have : ¬ a = b := by omega
        simp [e1, e2, h1, h2, this]
      · have : a = b := by omega
        subst this
        simp
theorem txt_toList (xs : List Nat) : (txt xs).toList = u8s xs := by
  rw [ByteArray.toList_eq]; rfl
theorem htext_byte (xs : List Nat) : ∀ d ∈ htext xs, d < 256 := by
  intro d hd
  obtain ⟨c, hc, rfl⟩ := List.mem_map.1 hd
  have := chr_lt c (digs_lt (by decide) _ _ c hc)
  omega
theorem htext_length (xs : List Nat) : (htext xs).length = 32 := by simp [htext, digs_length]
theorem txt_size (xs : List Nat) : (txt xs).size = xs.length := by simp [txt, ByteArray.size, u8s]

theorem ls_less {xs ys : List Nat} (hx : xs.length = 20) (hy : ys.length = 20) (bx : ∀ x ∈ xs, x < 256) (by_ : ∀ y ∈ ys, y < 256) :
    Op.bytesLess (txt (htext xs)).toList (txt (htext ys)).toList = decide (ord xs ys = -1) ∧ ((txt (htext xs)).toList == (txt (htext ys)).toList) = decide (ord xs ys = 0) ∧ (txt (htext xs)).size = 32 := by
  have e := ord_text hx hy bx by_
  refine ⟨?_, ?_, by rw [txt_size, htext_length]⟩
  · rw [txt_toList, txt_toList, less_ord (htext_byte xs) (htext_byte ys)]
    unfold htext
    rw [e]
  · rw [txt_toList, txt_toList, Bool.eq_iff_iff]
    simp only [beq_iff_eq, decide_eq_true_eq]
    constructor
    · intro h
      have h2 := u8s_inj (htext_byte xs) (htext_byte ys) h
      rw [← e]
      show ord (htext xs) (htext ys) = 0
      rw [h2, ord_self]
    · intro h
      rw [← e] at h
      have h2 : htext xs = htext ys := ord_eq_zero h
      rw [h2]

set_option maxRecDepth 100000 in
set_option maxHeartbeats 1000000 in
theorem walk_case (w : World) (A B : Array Value) (S T : ByteArray) (c : Int) (z : Bool) (hS : S.size = 32) (hl : Op.bytesLess S.toList T.toList = decide (c = -1)) (he : (S.toList == T.toList) = decide (c = 0))
    (hc : c = -1 ∨ c = 0 ∨ c = 1) (HX : Hid ((Try.prog.info? 22).map (·.size) = some A.size)) (HY : Hid ((Try.prog.info? 22).map (·.size) = some B.size))
    (hz : ∀ w, (Op.equalIn 10000 22 (.agg A) (.agg #[.int .u8 0, .int .u8 0, .int .u8 0, .int .u8 0, .int .u8 0, .int .u8 0, .int .u8 0, .int .u8 0, .int .u8 0, .int .u8 0, .int .u8 0, .int .u8 0, .int .u8 0, .int .u8 0, .int .u8 0, .int .u8 0, .int .u8 0, .int .u8 0, .int .u8 0, .int .u8 0])).run Try.prog w = .ok z w)
    (K8 : Hid (∀ w, Calls Try.prog 8 #[.agg A, .agg B] w fun e w' => e = .returned (.int .i64 c) ∧ Below w.heap.size w w'))
    (K9 : Hid (∀ w, Calls Try.prog 9 #[.agg A, .agg B] w fun e w' => e = .returned (.int .i64 c) ∧ Below w.heap.size w w'))
    (K10 : Hid (∀ w, Calls Try.prog 10 #[.agg A] w fun e w' => e = .returned (.string S) ∧ Below w.heap.size w w'))
    (K10' : Hid (∀ w, Calls Try.prog 10 #[.agg B] w fun e w' => e = .returned (.string T) ∧ Below w.heap.size w w'))
    (b1 b2 : Bool) (h1 : b1 = decide (c < 0)) (h2 : b2 = (c == 0)) (K11 : Hid (∀ w, Calls Try.prog 11 #[.agg A, .agg B] w fun e w' => e = .returned (.bool b1) ∧ Below w.heap.size w w'))
    (K12 : Hid (∀ w, Calls Try.prog 12 #[.agg A, .agg B] w fun e w' => e = .returned (.bool b2) ∧ Below w.heap.size w w'))
    (K13 : Hid (∀ w, Calls Try.prog 13 #[.agg A] w fun e w' => e = .returned (.bool z) ∧ Below w.heap.size w w')) :
    Calls Try.prog 3 #[.agg A, .agg B] w fun e w' => e = .returned (.bool true) ∧ Below w.heap.size w w' := by
  have HZ := Lib.hid hz
  have HL := Lib.hid hl
  have HE := Lib.hid he
  clear hz hl he
  go_enter Try.func3, Try.ntmps3
  go_upto_region 1 with (fail)
  have a0 := heap_old2 w (.cells A 22) (.cells B 22)
  have b0 := heap_new2 w (.cells A 22) (.cells B 22)
  have below0 : Below w.heap.size w ((w.alloc (.cells A 22)).alloc (.cells B 22)) := by go_grown
  have size0 : w.heap.size + 1 < ((w.alloc (.cells A 22)).alloc (.cells B 22)).heap.size := by simp
  generalize (w.alloc (.cells A 22)).alloc (.cells B 22) = W0 at *
  go_wp2_with (first
    | (with_reducible refine wpList_load_row rfl 22 (.tmp 2) rfl w.heap.size rfl 22 A (0, 0) _ ?_ Try.underlying22 rfl HX.out ?_; assumption)
    | (with_reducible refine wpList_load_row rfl 22 (.tmp 3) rfl (w.heap.size + 1) rfl 22 B (0, 0) _ ?_ Try.underlying22 rfl HY.out ?_; assumption)
    | (go_at_call 8; refine (K8.out _).mono ?_; rintro e w1 ⟨rfl, hb1⟩; have a1 := (hb1.block w.heap.size (by omega)).trans a0; have b1 := (hb1.block (w.heap.size + 1) (by omega)).trans b0; have s1 := hb1.size)
    | (go_at_call 9; refine (K9.out _).mono ?_; rintro e w2 ⟨rfl, hb2⟩; have a2 := (hb2.block w.heap.size (by omega)).trans a1; have b2 := (hb2.block (w.heap.size + 1) (by omega)).trans b1; have s2 := hb2.size))
  have ax : ∀ x : Later w2, x.val.heap[w.heap.size]? = _ := fun x => x.heap a2
  have bx' : ∀ x : Later w2, x.val.heap[w.heap.size + 1]? = _ := fun x => x.heap b2
  have AX := Lib.hid ax
  have BX := Lib.hid bx'
  have below2 : Below w.heap.size w w2 := below0.trans ((hb1.mono (by omega)).trans (hb2.mono (by omega)))
  clear ax bx' a0 b0 a1 b1 a2 b2 hb1 hb2 below0
  refine wp_region_quiet (C := fun w' => ∃ x : Later w2, w' = x.val) (by kernel_rfl) (by kernel_rfl) (later_first _) ?_
  refine q_load_row rfl 22 (.tmp 2) rfl w.heap.size rfl 22 A (0, 0) _ (by rintro _ ⟨x, rfl⟩; exact AX.out x) Try.underlying22 rfl HX.out ?_
  simp only [Act.put, List.setIfInBounds_toArray, List.set_cons_succ, List.set_cons_zero]
  go_big_quiet_step ((go_at_call 10; exact later_call (K10.out _)))
  refine q_load_row rfl 22 (.tmp 3) rfl (w.heap.size + 1) rfl 22 B (0, 0) _ (by rintro _ ⟨x, rfl⟩; exact BX.out x) Try.underlying22 rfl HY.out ?_
  simp only [Act.put, List.setIfInBounds_toArray, List.set_cons_succ, List.set_cons_zero]
  go_big_quiet_step ((go_at_call 10; exact later_call (K10'.out _)))
  go_big_quiet_step (fail)
  go_big_quiet_step (fail)
  refine wpQuiet_nil ?_
  rintro _ ⟨x3, rfl⟩
  have below3 := below2.trans (x3.below.mono (by omega))
  have a3 := AX.out x3
  have b3 := BX.out x3
  have hS3 := x3.below.size
  clear AX BX
  generalize x3.val = w3 at *
  have ax3 : ∀ x : Later w3, x.val.heap[w.heap.size]? = _ := fun x => x.heap a3
  have bx3 : ∀ x : Later w3, x.val.heap[w.heap.size + 1]? = _ := fun x => x.heap b3
  have AX := Lib.hid ax3
  have BX := Lib.hid bx3
  have hw3 : w.heap.size ≤ w3.heap.size := below3.size
  clear ax3 bx3
  have hl := HL.out
  have he := HE.out
  clear HL HE
  have hz := HZ.out
  obtain ⟨p, q, hp, hq⟩ : ∃ p q, p = decide (c = -1) ∧ q = decide (c = 0) := ⟨_, _, rfl, rfl⟩
  rw [← hp] at hl
  rw [← hq] at he
  rcases hc with rfl | rfl | rfl
  all_goals
    simp at hp hq
    subst hp hq
    simp at h1 h2
    subst h1 h2
    go_wp2
    refine wp_region_quiet (C := fun w' => ∃ x : Later w3, w' = x.val) (by kernel_rfl) (by kernel_rfl) (later_first _) ?_
    repeat (first
      | (refine q_load_row rfl 22 (.tmp 2) rfl w.heap.size rfl 22 A (0, 0) _ (by rintro _ ⟨x, rfl⟩; exact AX.out x) Try.underlying22 rfl HX.out ?_; simp only [Act.put, List.setIfInBounds_toArray, List.set_cons_succ, List.set_cons_zero])
      | (refine q_load_row rfl 22 (.tmp 3) rfl (w.heap.size + 1) rfl 22 B (0, 0) _ (by rintro _ ⟨x, rfl⟩; exact BX.out x) Try.underlying22 rfl HY.out ?_; simp only [Act.put, List.setIfInBounds_toArray, List.set_cons_succ, List.set_cons_zero])
      | go_big_quiet_step ((first | (go_at_call 11; exact later_call (K11.out _)) | (go_at_call 12; exact later_call (K12.out _)) | (go_at_call 13; exact later_call (K13.out _))))
      | quiet_step (fail))
    refine wpQuiet_nil ?_
    rintro _ ⟨x4, rfl⟩
    go_wp2
    go_ret
    exact ⟨by simp, below3.trans (x4.below.mono hw3)⟩

theorem walk (w : World) (xs ys : List Nat) (hx : xs.length = 20) (hy : ys.length = 20) (bx : ∀ x ∈ xs, x < 256) (by_ : ∀ y ∈ ys, y < 256) :
    Calls Try.prog 3 #[.agg (Arr .u8 xs), .agg (Arr .u8 ys)] w fun e w' => e = .returned (.bool true) ∧ Below w.heap.size w w' := by
  obtain ⟨hl, he, hs⟩ := ls_less hx hy bx by_
  exact walk_case w (Arr .u8 xs) (Arr .u8 ys) (txt (htext xs)) (txt (htext ys)) (ord xs ys) (xs == nought) hs hl he (ord_three xs ys) (Lib.hid (size22 hx)) (Lib.hid (size22 hy)) (eq_nought 22 Try.underlying22 hx bx)
    (Lib.hid fun w => hashOrder xs ys hx hy w) (Lib.hid fun w => implCmp w xs ys hx hy bx by_) (Lib.hid fun w => implText w xs hx bx) (Lib.hid fun w => implText w ys hy by_) _ _ rfl rfl
    (Lib.hid fun w => implLess w xs ys hx hy bx by_) (Lib.hid fun w => implEqual w xs ys hx hy bx by_) (Lib.hid fun w => implEmpty w xs hx bx)
end Go.Proofs.Ytbenpkonepfipaa.LawOrder
