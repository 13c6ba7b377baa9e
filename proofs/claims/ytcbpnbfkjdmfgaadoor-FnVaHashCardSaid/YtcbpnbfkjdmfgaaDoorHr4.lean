/- A hash read of a text, or made of bytes, behind a door that recovers: Parse, HashParse, HashNew, walked. No condition. -/
import Derived.Test.YtcbpnbfkjdmfgaaDoorHr3
set_option linter.unusedVariables false
namespace Go.Proofs.YtcbpnbfkjdmfgaaDoor.Hr
open Go.ChangeShapes Go.WideShapes Go.ChangeAt Go.RowKit
open Go.Proofs.YtcbpnbfkjdmfgaaDoor.Dig Go.Proofs.YtcbpnbfkjdmfgaaDoor.Mem Go.Proofs.YtcbpnbfkjdmfgaaDoor.Rb Go.Proofs.YtcbpnbfkjdmfgaaDoor.Ord

set_option maxRecDepth 100000 in
theorem parseGood (w : World) (s : ByteArray) (cs : List Nat) (h : IsTxt s cs) (hg : good cs = true) :
    Calls Tryd.prog 16 #[.string s] w fun e w' => e = .returned (.agg (Arr .u8 (got cs))) ∧ Below w.heap.size w w' := by
  have T0 := Lib.hid (row1_start w 31 (Arr .u8 zer))
  have K0 := fun w' => maybeParse w' s cs h
  rw [hg] at K0
  have K := Lib.hid K0
  have HS := Lib.hid (size64 (got_length cs))
  have HZ := Lib.hid (show (Arr .u8 zer).size = (Arr .u8 (got cs)).size by rw [Arr_size, Arr_size, got_length]; rfl)
  have HZ2 := Lib.hid (show Z20.size = (Arr .u8 (got cs)).size by rw [Arr_size, got_length]; rfl)
  clear h K0 hg
  obtain ⟨G, hG⟩ : ∃ G, G = got cs := ⟨_, rfl⟩
  rw [← hG] at K HS HZ HZ2 ⊢
  clear hG
  go_enter Tryd.func16, Tryd.ntmps16
  go_wp2_with (first
    | (go_at_call 14; (with_reducible refine (K.out _).mono ?_); rintro e w1 ⟨rfl, hb1⟩; have T1 := Lib.hid ((T0.out.later hb1).alloc (.cells (Arr .u8 G) 31)))
    | (with_reducible refine store_new (A := Z20) (t := 31) rfl 31 (.tmp 3) (.tmp 8) rfl (Arr .u8 G) rfl rfl HS.out HZ2.out (one_cells _) ?_)
    | (with_reducible refine wpList_load_row rfl 31 (.tmp 3) rfl _ rfl 31 _ (0, 0) _ (heap_alloc_new _ _) Tryd.underlying31 rfl HS.out ?_)
    | (with_reducible refine store_r1 T1 rfl 31 (.tmp 2) (.tmp 13) rfl (Arr .u8 G) rfl rfl HS.out HZ.out (one_cells _) ?_; intro w3 T3))
  refine bodyPost_ret (results_cell_row rfl _ _ w.heap.size 31 (Arr .u8 G) (0, 0) _ rfl T3.out.a0 Tryd.underlying31 rfl HS.out) rfl ?_
  exact ⟨rfl, T3.out.bel⟩

def noHash : Value := .iface 9 (.string ⟨#[99, 111, 117, 110, 100, 32, 110, 111, 116, 32, 112, 97, 114, 115, 101, 32, 72, 97, 115, 104]⟩)

set_option maxRecDepth 100000 in
theorem parseBad (w : World) (s : ByteArray) (cs : List Nat) (h : IsTxt s cs) (hg : good cs = false) :
    Calls Tryd.prog 16 #[.string s] w fun e w' => e = .panicked [{ v := noHash, recovered := false }] ∧ Below w.heap.size w w' := by
  have T0 := Lib.hid (row1_start w 31 (Arr .u8 zer))
  have K0 := fun w' => maybeParse w' s cs h
  rw [hg] at K0
  have K := Lib.hid K0
  have HS := Lib.hid (size64 (got_length cs))
  have HZ2 := Lib.hid (show Z20.size = (Arr .u8 (got cs)).size by rw [Arr_size, got_length]; rfl)
  clear h K0 hg
  obtain ⟨G, hG⟩ : ∃ G, G = got cs := ⟨_, rfl⟩
  rw [← hG] at K HS HZ2
  clear hG
  go_enter Tryd.func16, Tryd.ntmps16
  go_wp2_with (first
    | (go_at_call 14; (with_reducible refine (K.out _).mono ?_); rintro e w1 ⟨rfl, hb1⟩; have T1 := Lib.hid ((T0.out.later hb1).alloc (.cells (Arr .u8 G) 31)))
    | (with_reducible refine store_new (A := Z20) (t := 31) rfl 31 (.tmp 3) (.tmp 8) rfl (Arr .u8 G) rfl rfl HS.out HZ2.out (one_cells _) ?_))
  exact ⟨rfl, rfl, T1.out.bel⟩

theorem two_rows {w0 w : World} {A : Array Value} {b : Bool} (h : Rows2 w0 w 23 4 A #[.bool b]) (hs : (Tryd.prog.info? 23).map (·.size) = some A.size) (tmps : Array Value) (fn : Func) (p q : Tmp) (hf : fn.results = #[.cell p 23, .cell q 4])
    (hp : tmps.getD p undef = .pointer (some ⟨w0.heap.size, 0, none⟩)) (hq : tmps.getD q undef = .pointer (some ⟨w0.heap.size + 1, 0, none⟩)) :
    (results fn tmps).run Tryd.prog w = .ok (.tuple #[.agg A, .bool b]) w := by
  have h1 : w.cell? ⟨w0.heap.size + 1, 0, none⟩ = some (.bool b) := by simp [World.cell?, h.a1]
  have hp' : tmps[p]?.getD undef = .pointer (some ⟨w0.heap.size, 0, none⟩) := by simpa using hp
  have hq' : tmps[q]?.getD undef = .pointer (some ⟨w0.heap.size + 1, 0, none⟩) := by simpa using hq
  have h0 := run_loadVar_row (P := Tryd.prog) w w0.heap.size 23 23 A (0, 0) _ h.a0 Tryd.underlying23 rfl hs
  have h2 : (loadVar 4 ⟨w0.heap.size + 1, 0, none⟩).run Tryd.prog w = .ok (.bool b) w := by simp [go_sem, h1]
  simp [results, hf, hp', hq', asAddr, h0, h2, Result.andThen]


set_option maxRecDepth 100000 in
theorem catch35 {w0 w : World} {A : Array Value} {b : Bool} (T : Rows2 w0 w 23 4 A #[.bool b]) (hA : A.size = (Arr .u8 zer).size) (u : TypeId) (pv : Value) (older : List PanicEntry) :
    CallsD Tryd.prog 15 #[.pointer (some ⟨w0.heap.size, 0, none⟩), .pointer (some ⟨w0.heap.size + 1, 0, none⟩)] (.panicking ({ v := .iface u pv, recovered := false } :: older)) w fun e u' w' =>
      e = .returned (.tuple #[]) ∧ u' = .panicking ({ v := .iface u pv, recovered := true } :: older) ∧ Rows2 w0 w' 23 4 (Arr .u8 zer) #[.bool false] := by
  have T := Lib.hid T
  have HA := Lib.hid hA
  clear hA
  refine callsD_of_wpS Tryd.func15 rfl fun c₀ cs hu => ?_
  apply wpS_seq
  apply wpS_region
  simp [wpOpsS, go_sem, recoverD, hu, Tryd.ntmps15, Exit.thenS]
  refine wpS_cond (t := true) (by simp [Act.eval, Array.replicate]) ?_
  simp only [if_true]
  refine wpS_of_wp ?_
  go_wp2_with (first
    | (with_reducible refine store_0 T rfl 23 (.tmp 0) (.tmp 4) rfl (Arr .u8 zer) rfl rfl (size22 rfl) HA.out (one_cells _) ?_; intro w1 T1)
    | (with_reducible refine store_one_1 T1 rfl 4 (.tmp 1) (.const (.bool false)) rfl (.bool false) _ rfl rfl rfl rfl (by kernel_rfl) ?_; intro w2 T2))
  have T2' := T2.out
  cases c₀
  simp_all [bodyPostS, results, Tryd.results15]

theorem idle35 (p q : Addr) (w : World) :
    CallsD Tryd.prog 15 #[.pointer (some p), .pointer (some q)] .returning w fun e u' w' => e = .returned (.tuple #[]) ∧ u' = .returning ∧ w' = w := by
  refine callsD_of_wpS Tryd.func15 rfl fun c₀ cs hu => ?_
  apply wpS_seq
  apply wpS_region
  simp [wpOpsS, go_sem, recoverD, hu, Tryd.ntmps15, Exit.thenS]
  refine wpS_cond (t := false) (by simp [Act.eval, Array.replicate]) ?_
  simp only [Bool.false_eq_true, if_false]
  refine wpS_of_wp (wp_skip ?_)
  cases c₀
  simp_all [bodyPostS, results, Tryd.results15]

set_option maxRecDepth 100000 in
theorem catch37 {w0 w : World} {A : Array Value} {b : Bool} (T : Rows2 w0 w 23 4 A #[.bool b]) (hA : A.size = (Arr .u8 zer).size) (u : TypeId) (pv : Value) (older : List PanicEntry) :
    CallsD Tryd.prog 17 #[.pointer (some ⟨w0.heap.size, 0, none⟩), .pointer (some ⟨w0.heap.size + 1, 0, none⟩)] (.panicking ({ v := .iface u pv, recovered := false } :: older)) w fun e u' w' =>
      e = .returned (.tuple #[]) ∧ u' = .panicking ({ v := .iface u pv, recovered := true } :: older) ∧ Rows2 w0 w' 23 4 (Arr .u8 zer) #[.bool false] := by
  have T := Lib.hid T
  have HA := Lib.hid hA
  clear hA
  refine callsD_of_wpS Tryd.func17 rfl fun c₀ cs hu => ?_
  apply wpS_seq
  apply wpS_region
  simp [wpOpsS, go_sem, recoverD, hu, Tryd.ntmps17, Exit.thenS]
  refine wpS_cond (t := true) (by simp [Act.eval, Array.replicate]) ?_
  simp only [if_true]
  refine wpS_of_wp ?_
  go_wp2_with (first
    | (with_reducible refine store_0 T rfl 23 (.tmp 0) (.tmp 4) rfl (Arr .u8 zer) rfl rfl (size22 rfl) HA.out (one_cells _) ?_; intro w1 T1)
    | (with_reducible refine store_one_1 T1 rfl 4 (.tmp 1) (.const (.bool false)) rfl (.bool false) _ rfl rfl rfl rfl (by kernel_rfl) ?_; intro w2 T2))
  have T2' := T2.out
  cases c₀
  simp_all [bodyPostS, results, Tryd.results17]

theorem idle37 (p q : Addr) (w : World) :
    CallsD Tryd.prog 17 #[.pointer (some p), .pointer (some q)] .returning w fun e u' w' => e = .returned (.tuple #[]) ∧ u' = .returning ∧ w' = w := by
  refine callsD_of_wpS Tryd.func17 rfl fun c₀ cs hu => ?_
  apply wpS_seq
  apply wpS_region
  simp [wpOpsS, go_sem, recoverD, hu, Tryd.ntmps17, Exit.thenS]
  refine wpS_cond (t := false) (by simp [Act.eval, Array.replicate]) ?_
  simp only [Bool.false_eq_true, if_false]
  refine wpS_of_wp (wp_skip ?_)
  cases c₀
  simp_all [bodyPostS, results, Tryd.results17]

set_option maxRecDepth 100000 in
theorem implParse (w : World) (s : ByteArray) (cs : List Nat) (h : IsTxt s cs) :
    Calls Tryd.prog 7 #[.string s] w fun e w' => e = .returned (.tuple #[.agg (Arr .u8 (got cs)), .bool (good cs)]) ∧ Below w.heap.size w w' := by
  have hmf : ∀ (fn : Fn) (first cap : Array Value) (w : World), (Instr.makeFunc fn first cap).run Tryd.prog w = .ok (.func fn first cap) w := fun _ _ _ _ => rfl
  have T0 := Lib.hid (rows2_start w 23 4 (Arr .u8 zer) #[.bool false])
  have HS := Lib.hid (size22 (got_length cs))
  have HZ := Lib.hid (show (Arr .u8 zer).size = (Arr .u8 (got cs)).size by rw [Arr_size, Arr_size, got_length]; rfl)
  by_cases hg : good cs = true
  · have K := Lib.hid fun w' => parseGood w' s cs h hg
    rw [hg]
    clear h hg
    obtain ⟨G, hG⟩ : ∃ G, G = got cs := ⟨_, rfl⟩
    rw [← hG] at K HS HZ ⊢
    clear hG
    go_enter_defers Tryd.func7, Tryd.ntmps7
    go_wp2_with (first
      | (go_at_call 16; (with_reducible refine (K.out _).mono ?_); rintro e w1 ⟨rfl, hb1⟩; have T1 := Lib.hid (T0.out.later hb1))
      | (with_reducible refine store_0 T1 rfl 23 (.tmp 2) (.tmp 6) rfl (Arr .u8 G) rfl rfl HS.out HZ.out (one_cells _) ?_; intro w2 T2)
      | (with_reducible refine store_one_1 T2 rfl 4 (.tmp 3) (.const (.bool true)) rfl (.bool true) _ rfl rfl rfl rfl (by kernel_rfl) ?_; intro w3 T3))
    refine leaves_cons (f := 15) (args := #[.pointer (some ⟨w.heap.size, 0, none⟩), .pointer (some ⟨w.heap.size + 1, 0, none⟩)]) (by simp) (by simp [go_sem]) ?_
    refine (idle35 _ _ _).mono ?_
    rintro e u' w'' ⟨rfl, rfl, rfl⟩
    exact ⟨_, two_rows T3.out HS.out _ Tryd.f7 2 3 rfl rfl rfl, rfl, T3.out.bel⟩
  · have hgf : good cs = false := by cases hq : good cs <;> simp_all
    have hgot : got cs = zer := by unfold got; rw [if_neg hg]
    have K := Lib.hid fun w' => parseBad w' s cs h hgf
    rw [hgot, hgf]
    clear h hg hgot hgf
    go_enter_defers Tryd.func7, Tryd.ntmps7
    go_wp2_with (first
      | (go_at_call 16; (with_reducible refine (K.out _).mono ?_); rintro e w1 ⟨rfl, hb1⟩; have T1 := Lib.hid (T0.out.later hb1)))
    refine leaves_cons (f := 15) (args := #[.pointer (some ⟨w.heap.size, 0, none⟩), .pointer (some ⟨w.heap.size + 1, 0, none⟩)]) (by simp) (by simp [go_sem]) ?_
    refine (catch35 T1.out rfl 9 _ [] ).mono ?_
    rintro e u' w'' ⟨rfl, rfl, T2⟩
    simp only [settle, List.dropWhile_nil, Leaves]
    exact ⟨_, two_rows T2 (size22 rfl) _ Tryd.f7 2 3 rfl rfl rfl, rfl, T2.bel⟩

/-- What is made of bytes. -/
def made (xs : List Nat) : List Nat := if xs.length = 20 then xs else zer
set_option maxRecDepth 100000 in
theorem implNew (w : World) (a : Option Addr) (n c : Nat) (xs : List Nat) (h : RB w a n c xs) :
    Calls Tryd.prog 8 #[.slice a n c] w fun e w' => e = .returned (.tuple #[.agg (Arr .u8 (made xs)), .bool (decide (xs.length = 20))]) ∧ Below w.heap.size w w' := by
  have hmf : ∀ (fn : Fn) (first cap : Array Value) (w : World), (Instr.makeFunc fn first cap).run Tryd.prog w = .ok (.func fn first cap) w := fun _ _ _ _ => rfl
  have T0 := Lib.hid (rows2_start w 23 4 (Arr .u8 zer) #[.bool false])
  have hl := h.len
  by_cases hg : xs.length = 20
  · have HS := Lib.hid (size22 hg)
    have HZ := Lib.hid (show (Arr .u8 zer).size = (Arr .u8 xs).size by rw [Arr_size, Arr_size, hg]; rfl)
    obtain rfl : n = 20 := by omega
    have K := Lib.hid fun w' (hb : Below w.heap.size w w') => newGood w' a c xs (h.below hb (Nat.le_refl _))
    have hm : made xs = xs := by unfold made; rw [if_pos hg]
    rw [hm, decide_eq_true hg]
    clear h hg hm hl
    go_enter_defers Tryd.func8, Tryd.ntmps8
    go_wp2_with (first
      | (go_at_call 18; (refine (K.out _ T0.out.bel).mono ?_); rintro e w1 ⟨rfl, hb1⟩; have T1 := Lib.hid (T0.out.later hb1))
      | (with_reducible refine store_0 T1 rfl 23 (.tmp 2) (.tmp 6) rfl (Arr .u8 xs) rfl rfl HS.out HZ.out (one_cells _) ?_; intro w2 T2)
      | (with_reducible refine store_one_1 T2 rfl 4 (.tmp 3) (.const (.bool true)) rfl (.bool true) _ rfl rfl rfl rfl (by kernel_rfl) ?_; intro w3 T3))
    refine leaves_cons (f := 17) (args := #[.pointer (some ⟨w.heap.size, 0, none⟩), .pointer (some ⟨w.heap.size + 1, 0, none⟩)]) (by simp) (by simp [go_sem]) ?_
    refine (idle37 _ _ _).mono ?_
    rintro e u' w'' ⟨rfl, rfl, rfl⟩
    exact ⟨_, two_rows T3.out HS.out _ Tryd.f8 2 3 rfl rfl rfl, rfl, T3.out.bel⟩
  · have hn : n ≠ 20 := by omega
    have K := Lib.hid fun w' => newBad w' a n c hn
    have hm : made xs = zer := by unfold made; rw [if_neg hg]
    rw [hm, decide_eq_false hg]
    clear h hg hm hn hl
    go_enter_defers Tryd.func8, Tryd.ntmps8
    go_wp2_with (first
      | (go_at_call 18; (with_reducible refine (K.out _).mono ?_); rintro e w1 ⟨rfl, hb1⟩; have T1 := Lib.hid (T0.out.later hb1)))
    refine leaves_cons (f := 17) (args := #[.pointer (some ⟨w.heap.size, 0, none⟩), .pointer (some ⟨w.heap.size + 1, 0, none⟩)]) (by simp) (by simp [go_sem]) ?_
    refine (catch37 T1.out rfl 9 _ [] ).mono ?_
    rintro e u' w'' ⟨rfl, rfl, T2⟩
    simp only [settle, List.dropWhile_nil, Leaves]
    exact ⟨_, two_rows T2 (size22 rfl) _ Tryd.f8 2 3 rfl rfl rfl, rfl, T2.bel⟩

theorem valid (w : World) (s : ByteArray) (cs : List Nat) (h : IsTxt s cs) :
    Calls Tryd.prog 20 #[.string s] w fun e w' => e = .returned (.bool (good cs)) ∧ w = w' := by
  have K := Lib.hid (formed w s cs h)
  clear h
  go_enter Tryd.func20, Tryd.ntmps20
  go_wp2_with (go_at_call 25; (with_reducible refine K.out.mono ?_); rintro e w1 ⟨rfl, rfl⟩)
  go_ret
  exact ⟨rfl, rfl⟩
theorem implValid (w : World) (s : ByteArray) (cs : List Nat) (h : IsTxt s cs) :
    Calls Tryd.prog 11 #[.string s] w fun e w' => e = .returned (.bool (good cs)) ∧ w = w' := by
  have K := Lib.hid (valid w s cs h)
  clear h
  go_enter Tryd.func11, Tryd.ntmps11
  go_wp2_with (go_at_call 20; (with_reducible refine K.out.mono ?_); rintro e w1 ⟨rfl, rfl⟩)
  go_ret
  exact ⟨rfl, rfl⟩
end Go.Proofs.YtcbpnbfkjdmfgaaDoor.Hr
