/- How many pairs lie below each child, out of a map's message, walked. Condition: the bytes are a message. -/
import Derived.Test.YtegohkgmamnkdaaGreatRdC
import Derived.Test.YtegohkgmamnkdaaGreatCn3
import Derived.Test.YtegohkgmamnkdaaGreatRws
set_option linter.unusedVariables false
namespace Go.Proofs.YtegohkgmamnkdaaGreat.Msg
open Go.ChangeShapes Go.WideShapes Go.ChangeAt Go.RowKit
open Go.Proofs.YtegohkgmamnkdaaGreat.Dig Go.Proofs.YtegohkgmamnkdaaGreat.Mem Go.Proofs.YtegohkgmamnkdaaGreat.Rb
open Go.Proofs.YtegohkgmamnkdaaGreat.Cnt (encs enc Nums64 OwnU)

theorem ownU_later {w0 w w' : World} {g : Nat} {xs : List Nat} (h : OwnU w0 w g xs) (hb : Below w.heap.size w w') : OwnU w0 w' g xs :=
  ⟨(hb.block g (lt_of_obj h.row)).trans h.row, bw h.bel hb, h.hg⟩

set_option maxRecDepth 100000 in
set_option maxHeartbeats 2000000 in
theorem subsP {w : World} {g o L cc n c1 c2 m : Nat} {T xs ys ls : List Nat} (h : Mess w g o L cc n T fidMap) (V0 : Vec T 0 c1 xs) (b1 : c1 ≤ 100000) (p1 : 0 < c1) (V1 : Vec T 1 (m - 1) ys) (hm : m ≤ 200) (hm0 : 0 < m)
    (V8 : Vec T 8 c2 (encs 0 ls)) (l8 : (encs 0 ls).length = c2) (b2 : c2 ≤ 100000) (hl : ls.length = m) (hb : ∀ x ∈ ls, x < 18446744073709551616) :
    Calls Tryz.prog 150 #[.slice (some ⟨g, o, none⟩) L cc] w fun e w' => ∃ q, e = .returned (.slice (some ⟨q, 0, none⟩) m m) ∧ OwnU w w' q ls := by
  obtain ⟨i8, hi, hz0, hz1, hz2⟩ := info_parts Cnt.info47
  have KI := Lib.hid (itemsP h V0 b1 p1 V1 hm hm0)
  have KR := Lib.hid fun w1 (hbl : Below w.heap.size w w1) => rootP (h.below hbl).rb h.top h.pos4
  have KS := Lib.hid fun (w1 : World) (t : Nat) (h1 : Tbl w1 t g o L cc T) => pSC h1 h.m V8 l8 b2
  have KD := Lib.hid fun (w0 w1 : World) (q : Nat) (hbl : Below w.heap.size w w0) (hO : OwnU w0 w1 q (List.replicate m 0)) => Cnt.decodeVarints w0 w1 q m (cutA (some ⟨g, o, none⟩) cc (ind T 8 + 4)) c2 (cc - (ind T 8 + 4)) ls hl (by omega) (by omega) hb ((vec_rb' h.rb V8 c2 l8).below hbl (Nat.le_refl _)) hO
  have bm : m ≤ 65535 := by omega
  clear h V0 V1 V8 l8 hl hb p1
  go_enter Tryz.func150, Tryz.ntmps150
  go_wp2_with (first
    | (go_at_call 174; (with_reducible refine KI.out.mono ?_); rintro e w1 ⟨rfl, hb1⟩; have B1 := Lib.hid hb1; have O1 := Lib.hid (show OwnU w1 (w1.alloc (.cells (Cnt.us (List.replicate m 0)).toArray 33)) w1.heap.size (List.replicate m 0) from ⟨heap_alloc_new _ _, (Below.refl _ _).alloc (Nat.le_refl _) _, Nat.le_refl _⟩); clear hb1)
    | (at_make; refine wpList_make_row _ rfl _ _ 23 rfl 33 i8 (.int .u64 0) Tryz.underlying23 hi hz0 hz1 rfl .u16 .u16 m rfl rfl (by rw [hz2]; omega) (by omega) ?_; rw [Cnt.made_us])
    | (go_at_call 117; (with_reducible refine (KR.out _ (bw B1.out O1.out.bel)).mono ?_); rintro e w2 ⟨t, rfl, ht, h1, hb2⟩; have H1 := Lib.hid h1; have O2 := Lib.hid (ownU_later O1.out hb2); clear h1 hb2 ht)
    | (go_at_call 176; (with_reducible refine (KS.out _ _ H1.out).mono ?_); rintro e w3 ⟨rfl, hw3⟩; have O3 := Lib.hid (ownU_later O2.out (drew_below hw3)); clear hw3)
    | (go_at_call 175; (with_reducible refine (KD.out w1 _ w1.heap.size B1.out O3.out).mono ?_); rintro e w4 ⟨rfl, h4⟩; have O4 := Lib.hid h4; clear h4))
  go_ret
  exact ⟨w1.heap.size, rfl, ⟨O4.out.row, bw B1.out O4.out.bel, B1.out.size⟩⟩
end Go.Proofs.YtegohkgmamnkdaaGreat.Msg
/- A node's counts below its children, walked. Condition: the bytes are a message. -/
set_option linter.unusedVariables false
namespace Go.Proofs.YtegohkgmamnkdaaGreat.Msg
open Go.ChangeShapes Go.WideShapes Go.ChangeAt Go.RowKit
open Go.Proofs.YtegohkgmamnkdaaGreat.Dig Go.Proofs.YtegohkgmamnkdaaGreat.Mem Go.Proofs.YtegohkgmamnkdaaGreat.Rb
open Go.Proofs.YtegohkgmamnkdaaGreat.Cnt (encs enc Nums64 OwnU)

theorem ownU_less {w a b : World} {q : Nat} {ls : List Nat} (h : OwnU a b q ls) (hb : Below w.heap.size w a) : OwnU w b q ls := ⟨h.row, bw hb h.bel, Nat.le_trans hb.size h.hg⟩
/-- What the counts' reading wants of a message. -/
structure SubOk (T ls : List Nat) (m : Nat) : Prop where
  v0 : ∃ c xs, Vec T 0 c xs ∧ c ≤ 100000 ∧ 0 < c
  v1 : ∃ ys, Vec T 1 (m - 1) ys
  v8 : Vec T 8 (encs 0 ls).length (encs 0 ls)
  b8 : (encs 0 ls).length ≤ 100000
  hl : ls.length = m
  hb : ∀ x ∈ ls, x < 18446744073709551616

set_option maxRecDepth 100000 in
theorem gSubsP {w : World} {g o L cc n m : Nat} {T ls : List Nat} (h : Mess w g o L cc n T fidMap) (S : SubOk T ls m) (hm : m ≤ 200) (hm0 : 0 < m) :
    Calls Tryz.prog 115 #[.slice (some ⟨g, o, none⟩) L cc] w fun e w' => ∃ q, e = .returned (.slice (some ⟨q, 0, none⟩) m m) ∧ OwnU w w' q ls := by
  obtain ⟨c1, xs, V0, b1, p1⟩ := S.v0
  obtain ⟨ys, V1⟩ := S.v1
  have K1 := Lib.hid (fileId h ⟨#[84, 85, 80, 77]⟩ txtP)
  have K2 := Lib.hid (subsP h V0 b1 p1 V1 hm hm0 S.v8 rfl S.b8 S.hl S.hb)
  have hcc := h.rb.le
  have hct := h.rb.top
  unfold maxLen at hct
  clear h V0 V1 S p1
  go_enter Tryz.func115, Tryz.ntmps115
  go_wp2_with (first
    | (go_at_call 88; (with_reducible refine K1.out.mono ?_); rintro e w1 ⟨rfl, rfl⟩)
    | (go_at_call 150; (with_reducible refine K2.out.mono ?_); rintro e w2 ⟨q, rfl, h2⟩; have H2 := Lib.hid h2; clear h2))
  go_ret
  exact ⟨q, rfl, H2.out⟩

set_option maxRecDepth 100000 in
theorem nSubsP {w : World} {g o L cc n m : Nat} {T ls : List Nat} (h : Mess w g o L cc n T fidMap) (S : SubOk T ls m) (hm : m ≤ 200) (hm0 : 0 < m) (k0 k1 v0 v1 : Value) (c0 : k0.oneCell' = true) (c1 : k1.oneCell' = true) (c2 : v0.oneCell' = true) (c3 : v1.oneCell' = true) :
    Calls Tryz.prog 87 #[.agg #[k0, k1, v0, v1, .int .u16 (m : Int), .slice (some ⟨g, o, none⟩) L cc]] w fun e w' => ∃ q, e = .returned (.slice (some ⟨q, 0, none⟩) m m) ∧ OwnU w w' q ls := by
  have hcc := h.rb.le
  have hct := h.rb.top
  unfold maxLen at hct
  have K2 := Lib.hid (gSubsP (h.below (w' := w.alloc (.cells #[k0, k1, v0, v1, .int .u16 (m : Int), .slice (some ⟨g, o, none⟩) L cc] 71)) ((Below.refl _ _).alloc (Nat.le_refl _) _)) S hm hm0)
  clear h S
  go_enter Tryz.func87, Tryz.ntmps87
  go_wp2_with (go_at_call 115; (with_reducible refine K2.out.mono ?_); rintro e w2 ⟨q, rfl, h2⟩; have H2 := Lib.hid h2; clear h2)
  go_ret
  exact ⟨q, rfl, ownU_less H2.out ((Below.refl _ _).alloc (Nat.le_refl _) _)⟩

set_option maxRecDepth 100000 in
theorem doorSubsP {w : World} {g o L cc n m : Nat} {T ls : List Nat} (h : Mess w g o L cc n T fidMap) (S : SubOk T ls m) (hm : m ≤ 200) (hm0 : 0 < m) (k0 k1 v0 v1 : Value) (c0 : k0.oneCell' = true) (c1 : k1.oneCell' = true) (c2 : v0.oneCell' = true) (c3 : v1.oneCell' = true) :
    Calls Tryz.prog 44 #[.agg #[k0, k1, v0, v1, .int .u16 (m : Int), .slice (some ⟨g, o, none⟩) L cc]] w fun e w' => ∃ q, e = .returned (.slice (some ⟨q, 0, none⟩) m m) ∧ OwnU w w' q ls := by
  have hcc := h.rb.le
  have hct := h.rb.top
  unfold maxLen at hct
  have K2 := Lib.hid (nSubsP (h.below (w' := w.alloc (.cells #[k0, k1, v0, v1, .int .u16 (m : Int), .slice (some ⟨g, o, none⟩) L cc] 71)) ((Below.refl _ _).alloc (Nat.le_refl _) _)) S hm hm0 k0 k1 v0 v1 c0 c1 c2 c3)
  clear h S
  go_enter Tryz.func44, Tryz.ntmps44
  go_wp2_with (go_at_call 87; (with_reducible refine K2.out.mono ?_); rintro e w2 ⟨q, rfl, h2⟩; have H2 := Lib.hid h2; clear h2)
  go_ret
  exact ⟨q, rfl, ownU_less H2.out ((Below.refl _ _).alloc (Nat.le_refl _) _)⟩
end Go.Proofs.YtegohkgmamnkdaaGreat.Msg
/- A node's message as the readers want it. Condition: a node of a map. -/
set_option linter.unusedVariables false
namespace Go.Proofs.YtegohkgmamnkdaaGreat.Msg
open Go.ChangeShapes Go.WideShapes Go.ChangeAt Go.RowKit
open Go.Proofs.YtegohkgmamnkdaaGreat.Dig Go.Proofs.YtegohkgmamnkdaaGreat.Mem Go.Proofs.YtegohkgmamnkdaaGreat.Rb
open Go.Proofs.YtegohkgmamnkdaaGreat.Cnt (encs enc Nums64 OwnU)

theorem mess_of {w : World} {g o L cc m i j jc cnt lv t : Nat} {T jy : List Nat} {fs gs : List Fld} (h : RB w (some ⟨g, o, none⟩) L cc T) (M : MapTold T fs gs m i j jc cnt lv t jy) (ht : t ≤ 20) : Mess w g o L cc t T fidMap := by
  obtain ⟨vs, xs, mg⟩ := M.mg
  have hl := h.len
  have := M.top
  have := mg.vt
  have := mg.pos4
  exact ⟨h, by omega, mg.msgy ht, mg.fidAt, by omega⟩
theorem sub_of {w : World} {m lv cnt : Nat} {T ls : List Nat} {fs gs : List Fld} (M : MapTold T fs gs m 7 8 (encs 0 ls).length cnt lv 11 (encs 0 ls)) (ok : ∀ f ∈ fs, FldOk w f) (k0 : 0 < total fs) (hl : ls.length = m) (hb : ∀ x ∈ ls, x < 18446744073709551616) : SubOk T ls m := by
  have c1 := cat_length ok
  have h1 := M.keys.fit
  have h2 := M.last.fit
  have h3 := M.top
  exact ⟨⟨_, _, M.keys, by omega, by omega⟩, ⟨_, M.koff⟩, M.last, by omega, hl, hb⟩
end Go.Proofs.YtegohkgmamnkdaaGreat.Msg
/- A hash of twenty bytes, walked. Condition: the bytes are twenty. -/
set_option linter.unusedVariables false
namespace Go.Proofs.YtegohkgmamnkdaaGreat.Hn
open Go.ChangeShapes Go.WideShapes Go.ChangeAt Go.RowKit
open Go.Proofs.YtegohkgmamnkdaaGreat.Dig Go.Proofs.YtegohkgmamnkdaaGreat.Mem Go.Proofs.YtegohkgmamnkdaaGreat.Rb

def Arr (k : IntKind) (xs : List Nat) : Array Value := (xs.map fun (x : Nat) => Value.int k (x : Int)).toArray
theorem Arr_size (k : IntKind) (xs : List Nat) : (Arr k xs).size = xs.length := by simp [Arr]
theorem info20 : (Tryz.prog.info? 85).map (·.size) = some 20 := by kernel_rfl
theorem size20 {xs : List Nat} (hx : xs.length = 20) : (Tryz.prog.info? 85).map (·.size) = some (Arr .u8 xs).size := by rw [Arr_size, hx]; exact info20
theorem size1 : (Tryz.prog.info? 5).map (·.size) = some 1 := by kernel_rfl

def zer : List Nat := [0, 0, 0, 0, 0, 0, 0, 0, 0, 0, 0, 0, 0, 0, 0, 0, 0, 0, 0, 0]
theorem one_cells (xs : List Nat) : (Arr .u8 xs).all (·.oneCell') = true :=
  Array.all_eq_true_iff_forall_mem.2 fun v hv => by
    obtain ⟨x, _, rfl⟩ := List.mem_map.1 (show v ∈ xs.map _ by simpa [Arr] using hv)
    rfl

set_option maxRecDepth 100000 in
theorem newHash (w : World) (a : Option Addr) (c : Nat) (xs : List Nat) (h : RB w a 20 c xs) :
    Calls Tryz.prog 119 #[.slice a 20 c] w fun e w' => e = .returned (.agg (Arr .u8 xs)) ∧ Below w.heap.size w w' := by
  have hl := h.len
  have T0 := Lib.hid (rows2_start w 85 85 (Arr .u8 zer) (Arr .u8 zer))
  have HR := Lib.hid fun w' (hb : Below w.heap.size w w') => h.below hb (Nat.le_refl _)
  have HS := Lib.hid (size20 hl)
  have HO := Lib.hid (one_cells xs)
  have HZ := Lib.hid (show (Arr .u8 zer).size = (Arr .u8 xs).size by rw [Arr_size, Arr_size, hl]; rfl)
  clear h
  go_enter Tryz.func119, Tryz.ntmps119
  go_wp2_with (first
    | (with_reducible refine store_1 T0 rfl 85 (.tmp 3) (.tmp 8) rfl (Arr .u8 zer) rfl rfl (size20 rfl) rfl (one_cells _) ?_; intro w1 T1)
    | ((with_reducible refine copy_1 T1 rfl (.tmp 9) (.tmp 10) 26 26 rfl 5 Tryz.underlying26 size1 20 c rfl a rfl xs (HR.out _ T1.out.bel) rfl (by omega) ?_); intro w2 T2'; have T2 : Hid (Rows2 w w2 85 85 (Arr .u8 zer) (Arr .u8 xs)) := T2')
    | (with_reducible refine wpList_load_row rfl 85 (.tmp 3) rfl _ rfl 85 _ (0, 0) _ T2.out.a1 Tryz.underlying85 rfl HS.out ?_)
    | (with_reducible refine store_0 T2 rfl 85 (.tmp 2) (.tmp 12) rfl (Arr .u8 xs) rfl rfl HS.out HZ.out HO.out ?_; intro w3 T3))
  have g0 := T3.out.a0
  refine bodyPost_ret (results_cell_row rfl _ _ w.heap.size 85 (Arr .u8 xs) (0, 0) _ rfl g0 Tryz.underlying85 rfl HS.out) rfl ?_
  exact ⟨rfl, T3.out.bel⟩
end Go.Proofs.YtegohkgmamnkdaaGreat.Hn
