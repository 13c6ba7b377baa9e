/- MessageRead walked. Condition: the bytes are a message. -/
import Derived.Test.YtegohkgmamnkdaaGreatRdL
set_option linter.unusedVariables false
namespace Go.Proofs.YtegohkgmamnkdaaGreat.Msg
open Go.ChangeShapes Go.WideShapes Go.ChangeAt Go.RowKit
open Go.Proofs.YtegohkgmamnkdaaGreat.Dig Go.Proofs.YtegohkgmamnkdaaGreat.Mem Go.Proofs.YtegohkgmamnkdaaGreat.Rb Go.Proofs.YtegohkgmamnkdaaGreat.Hn
open Go.Proofs.YtegohkgmamnkdaaGreat.Cnt (encs enc Nums64 OwnU)

/-- What is told of a message. -/
def MsgOk (w : World) (m lv cnt : Nat) (fs gs : List Fld) (ls : List Nat) (ma : Nat) (ys : List Nat) (r : Value) : Prop :=
  ∃ a1 d1 a2 d2 ss a4 d4 fk fv hs, r = .agg #[.int .i64 (lv : Int), .int .i64 (m : Int), .int .i64 (cnt : Int), .slice a1 m d1, .slice a2 m d2, ss, .slice a4 ma d4] ∧
    Flr w a1 m d1 fk ∧ (∀ i, i < m → (fk.getD i nof).xs = (fs.getD i nof).xs) ∧ Flr w a2 m d2 fv ∧ (∀ i, i < m → (fv.getD i nof).xs = (gs.getD i nof).xs) ∧ Flr w a4 ma d4 hs ∧ (∀ i, i < ma → (hs.getD i nof).xs = chunk ys i) ∧
    ((lv = 0 ∧ ss = .slice none 0 0) ∨ (0 < lv ∧ ∃ q, ss = .slice (some ⟨q, 0, none⟩) m m ∧ ∀ i, i < m → w.cell? ⟨q, i, none⟩ = some (.int .u64 ((ls.getD i 0 : Nat) : Int))))
abbrev Msg0 : Array Value := #[.int .i64 0, .int .i64 0, .int .i64 0, .slice none 0 0, .slice none 0 0, .slice none 0 0, .slice none 0 0]
abbrev Nod0 : Array Value := #[.slice none 0 0, .slice none 0 0, .slice none 0 0, .slice none 0 0, .int .u16 0, .slice none 0 0]
theorem szMsg : (Tryz.prog.info? 42).map (·.size) = some 7 := by kernel_rfl

set_option maxRecDepth 100000 in
set_option maxHeartbeats 4000000 in
theorem messageRead {w : World} {g o L cc n m lv cnt ma : Nat} {T id ls ys : List Nat} {fs gs : List Fld} (R : Rdr g o L cc n m lv cnt T id fs gs ls ma ys) (h : Mess w g o L cc n T id) (ok1 : ∀ f ∈ fs, FldOk w f) (ok2 : ∀ f ∈ gs, FldOk w f) (l1 : fs.length = m) (l2 : gs.length = m) (hm : m ≤ 200) (hm0 : 0 < m) (hlv : lv ≤ 255) (hcnt : cnt ≤ 9223372036854775807) (hls : 0 < lv → ls.length = m) :
    Calls Tryz.prog 15 #[.slice (some ⟨g, o, none⟩) L cc] w fun e w' => ∃ r, e = .returned (.tuple #[r, .bool true]) ∧ MsgOk w' m lv cnt fs gs ls ma ys r ∧ Below w.heap.size w w' := by
  have hmf : ∀ (fn : Fn) (first cap : Array Value) (w : World), (Instr.makeFunc fn first cap).run Tryz.prog w = .ok (.func fn first cap) w := fun _ _ _ _ => rfl
  obtain ⟨iS, hiS, hs0, hs1, hs2⟩ := info_parts infoSl
  have hg : g < w.heap.size := RB.lt_ h.rb (by have := h.l8; omega)
  have hcc := h.rb.le
  have hct := h.rb.top
  unfold maxLen at hct
  have T0 := Lib.hid (rows2_start w 42 4 Msg0 #[.bool false])
  have KN := Lib.hid (R.node _ (h.below T0.out.bel) (fun f hf => fld_below (ok1 f hf) T0.out.bel) (fun f hf => fld_below (ok2 f hf) T0.out.bel))
  have HR := Lib.hid R
  have HM := Lib.hid h
  have OK1 := Lib.hid ok1
  have OK2 := Lib.hid ok2
  have HL1 := Lib.hid l1
  have HL2 := Lib.hid l2
  have HLS := Lib.hid hls
  clear h ok1 ok2 l1 l2 R hls
  go_enter_defers Tryz.func15, Tryz.ntmps15
  go_wp2_with (first
    | (go_at_call 37; (with_reducible refine KN.out.mono ?_); rintro e w1 ⟨K0, K1, V0, V1, rfl, s1, s2, s3, hb1⟩; have T1 := Lib.hid (T0.out.later hb1); have S1 := Lib.hid s1; have S2 := Lib.hid s2; have S3 := Lib.hid s3; obtain ⟨x0, n0, d0, x1, n1, d1, rfl, rfl⟩ := sld_form s1; obtain ⟨x2, n2, d2, x3, n3, d3, rfl, rfl⟩ := sld_form s2; have M1 := Lib.hid ((HM.out.below T0.out.bel).below hb1); clear s1 s2 s3 hb1; have Z1 := Lib.hid (show (Tryz.prog.info? 71).map (·.size) = some (#[.slice x0 n0 d0, .slice x1 n1 d1, .slice x2 n2 d2, .slice x3 n3 d3, .int .u16 (m : Int), .slice (some ⟨g, o, none⟩) L cc] : Array Value).size from szN); have Q1 := Lib.hid (show Nod0.size = (#[.slice x0 n0 d0, .slice x1 n1 d1, .slice x2 n2 d2, .slice x3 n3 d3, .int .u16 (m : Int), .slice (some ⟨g, o, none⟩) L cc] : Array Value).size from rfl); have O1 := Lib.hid (show (#[.slice x0 n0 d0, .slice x1 n1 d1, .slice x2 n2 d2, .slice x3 n3 d3, .int .u16 (m : Int), .slice (some ⟨g, o, none⟩) L cc] : Array Value).all (·.oneCell') = true from (by simp [Value.oneCell'])))
    | (with_reducible refine store_new (A := Nod0) (t := 71) rfl 71 (.tmp 4) (.tmp 9) rfl #[.slice x0 n0 d0, .slice x1 n1 d1, .slice x2 n2 d2, .slice x3 n3 d3, .int .u16 (m : Int), .slice (some ⟨g, o, none⟩) L cc] rfl rfl Z1.out Q1.out O1.out ?_))
  have bl : Below w1.heap.size w1 (w1.alloc (.cells #[.slice x0 n0 d0, .slice x1 n1 d1, .slice x2 n2 d2, .slice x3 n3 d3, .int .u16 (m : Int), .slice (some ⟨g, o, none⟩) L cc] 71)) := (Below.refl _ _).alloc (Nat.le_refl _) _
  have T2 := Lib.hid (T1.out.later bl)
  have M2 := Lib.hid (M1.out.below bl)
  have S21 := Lib.hid (S1.out.below bl)
  have S22 := Lib.hid (S2.out.below bl)
  have N2 : (w1.alloc (.cells #[.slice x0 n0 d0, .slice x1 n1 d1, .slice x2 n2 d2, .slice x3 n3 d3, .int .u16 (m : Int), .slice (some ⟨g, o, none⟩) L cc] 71)).heap[w1.heap.size]? = some (.cells #[.slice x0 n0 d0, .slice x1 n1 d1, .slice x2 n2 d2, .slice x3 n3 d3, .int .u16 (m : Int), .slice (some ⟨g, o, none⟩) L cc] 71 (0, 0)) := heap_alloc_new _ _
  have hn4 : w.heap.size + 2 ≤ w1.heap.size := by have := T1.out.lt; omega
  have hn5 : w1.heap.size < (w1.alloc (.cells #[.slice x0 n0 d0, .slice x1 n1 d1, .slice x2 n2 d2, .slice x3 n3 d3, .int .u16 (m : Int), .slice (some ⟨g, o, none⟩) L cc] 71)).heap.size := by simp
  clear bl T1 M1 S1 S2
  refine Rg.noPanic ?_
  refine Rg.regionK (fun w' => w'.heap[w1.heap.size]? = some (.cells #[.slice x0 n0 d0, .slice x1 n1 d1, .slice x2 n2 d2, .slice x3 n3 d3, .int .u16 (m : Int), .slice (some ⟨g, o, none⟩) L cc] 71 (0, 0))) (fun _ => True) (fun j => j == 7) 8 _ (by kernel_rfl) (by kernel_rfl) rfl ?_
  have T3 := Lib.hid (T2.out.later (Below.drew (Below.refl _ _)))
  have M3 := Lib.hid (M2.out.below (Below.drew (Below.refl _ _)))
  have S31 := Lib.hid (S21.out.below (Below.drew (Below.refl _ _)))
  have S32 := Lib.hid (S22.out.below (Below.drew (Below.refl _ _)))
  have hn6 : w1.heap.size < (w1.alloc (.cells #[.slice x0 n0 d0, .slice x1 n1 d1, .slice x2 n2 d2, .slice x3 n3 d3, .int .u16 (m : Int), .slice (some ⟨g, o, none⟩) L cc] 71)).drew.heap.size := hn5
  have N3 : (w1.alloc (.cells #[.slice x0 n0 d0, .slice x1 n1 d1, .slice x2 n2 d2, .slice x3 n3 d3, .int .u16 (m : Int), .slice (some ⟨g, o, none⟩) L cc] 71)).drew.heap[w1.heap.size]? = some (.cells #[.slice x0 n0 d0, .slice x1 n1 d1, .slice x2 n2 d2, .slice x3 n3 d3, .int .u16 (m : Int), .slice (some ⟨g, o, none⟩) L cc] 71 (0, 0)) := N2
  clear T2 M2 S21 S22 N2 hn5
  generalize (w1.alloc (.cells #[.slice x0 n0 d0, .slice x1 n1 d1, .slice x2 n2 d2, .slice x3 n3 d3, .int .u16 (m : Int), .slice (some ⟨g, o, none⟩) L cc] 71)).drew = Y at *
  generalize w1.heap.size = n4 at *
  simp only [Act.put]
  refine Rg.takeS (i := 0) (v := ?v0) rfl (by kernel_rfl) (by kernel_rfl) (by kernel_rfl) rfl (by kernel_rfl) (fun _ _ _ h => h) ?h0 N3 ?_
  case h0 => (refine yield_row ?_ 71 (.tmp 4) ?_ n4 ?_ 71 _ (0, 0) _ (fun _ h => h) Tryz.underlying71 rfl Z1.out <;> rfl)
  simp only [Act.put, List.setIfInBounds_toArray, List.set_cons_zero, List.set_cons_succ]
  refine Rg.takeS (i := 2) (v := ?v2) rfl (by kernel_rfl) (by kernel_rfl) (by kernel_rfl) rfl (by kernel_rfl) (fun _ _ _ h => h) ?h2 N3 ?_
  case h2 => (refine yield_row ?_ 71 (.tmp 4) ?_ n4 ?_ 71 _ (0, 0) _ (fun _ h => h) Tryz.underlying71 rfl Z1.out <;> rfl)
  simp only [Act.put, List.setIfInBounds_toArray, List.set_cons_zero, List.set_cons_succ]
  refine Rg.takeS (i := 4) (v := ?v4) rfl (by kernel_rfl) (by kernel_rfl) (by kernel_rfl) rfl (by kernel_rfl) (fun _ _ _ h => h) ?h4 N3 ?_
  case h4 => (refine yield_row ?_ 71 (.tmp 4) ?_ n4 ?_ 71 _ (0, 0) _ (fun _ h => h) Tryz.underlying71 rfl Z1.out <;> rfl)
  simp only [Act.put, List.setIfInBounds_toArray, List.set_cons_zero, List.set_cons_succ]
  refine Rg.oneS (i := 1) rfl (by kernel_rfl) rfl ?_
  go_wp2_with (go_at_call 38; (with_reducible refine (HR.out.lvl _ _ _ _ _ M3.out rfl rfl rfl rfl).mono ?_); rintro e w4 ⟨rfl, hb4⟩; have B4 := Lib.hid hb4; clear hb4)
  have N4 := (B4.out.block _ hn6).trans N3
  refine Rg.thence ⟨N4, ?_⟩
  refine Rg.oneS (i := 3) rfl (by kernel_rfl) rfl ?_
  go_wp2_with (go_at_call 39; (with_reducible refine (nCount w4 g o L cc _ _ _ _ m hm rfl rfl rfl rfl).mono ?_); rintro e w5 ⟨rfl, hb5⟩; have B5 := Lib.hid (bw B4.out hb5); clear hb5)
  have N5 := (B5.out.block _ hn6).trans N3
  refine Rg.thence ⟨N5, ?_⟩
  refine Rg.oneS (i := 5) rfl (by kernel_rfl) rfl ?_
  go_wp2_with (go_at_call 40; (with_reducible refine (HR.out.tc _ _ _ _ _ (M3.out.below B5.out) rfl rfl rfl rfl).mono ?_); rintro e w6 ⟨rfl, hb6⟩; have B6 := Lib.hid (bw B5.out hb6); clear hb6)
  have N6 := (B6.out.block _ hn6).trans N3
  refine Rg.thence ⟨N6, ?_⟩
  have T6 := Lib.hid (T3.out.later B6.out)
  refine Rg.oneS (i := 6) rfl (by kernel_rfl) rfl ?_
  go_wp2_with fail
  refine Rg.thence ⟨N6, ?_⟩
  have Z7 := Lib.hid (show (Tryz.prog.info? 42).map (·.size) = some (#[.int .i64 (lv : Int), .int .i64 (m : Int), .int .i64 (cnt : Int), .slice none 0 0, .slice none 0 0, .slice none 0 0, .slice none 0 0] : Array Value).size from szMsg)
  have Q7 := Lib.hid (show Msg0.size = (#[.int .i64 (lv : Int), .int .i64 (m : Int), .int .i64 (cnt : Int), .slice none 0 0, .slice none 0 0, .slice none 0 0, .slice none 0 0] : Array Value).size from rfl)
  have O7 := Lib.hid (show (#[.int .i64 (lv : Int), .int .i64 (m : Int), .int .i64 (cnt : Int), .slice none 0 0, .slice none 0 0, .slice none 0 0, .slice none 0 0] : Array Value).all (·.oneCell') = true from (by simp [Value.oneCell']))
  refine Rg.oneT (i := 7) rfl (by kernel_rfl) rfl ?_
  go_wp2_with (with_reducible refine wpList_store_row rfl 42 (.tmp 2) (.tmp 16) rfl w.heap.size #[.int .i64 (lv : Int), .int .i64 (m : Int), .int .i64 (cnt : Int), .slice none 0 0, .slice none 0 0, .slice none 0 0, .slice none 0 0] rfl rfl 42 _ T6.out.a0 Z7.out Q7.out O7.out ?_)
  refine Rg.thence (Rg.allUp (by kernel_rfl) (Rg.nop ?_) _)
  have WR := Lib.hid ((Wr.of_below (S := [w.heap.size]) B6.out).trans (Wr.setRow (S := [w.heap.size]) (g := w.heap.size) w6 #[.int .i64 (lv : Int), .int .i64 (m : Int), .int .i64 (cnt : Int), .slice none 0 0, .slice none 0 0, .slice none 0 0, .slice none 0 0] (by simp)))
  have hX := setRow_heap w6 w.heap.size _ #[.int .i64 (lv : Int), .int .i64 (m : Int), .int .i64 (cnt : Int), .slice none 0 0, .slice none 0 0, .slice none 0 0, .slice none 0 0] _ _ T6.out.a0
  have TX := Lib.hid (T6.out.set0 #[.int .i64 (lv : Int), .int .i64 (m : Int), .int .i64 (cnt : Int), .slice none 0 0, .slice none 0 0, .slice none 0 0, .slice none 0 0])
  obtain ⟨X, eX⟩ : ∃ X, X = w6.setRow w.heap.size #[.int .i64 (lv : Int), .int .i64 (m : Int), .int .i64 (cnt : Int), .slice none 0 0, .slice none 0 0, .slice none 0 0, .slice none 0 0] := ⟨_, rfl⟩
  rw [← eX] at WR hX TX ⊢
  clear eX
  obtain ⟨y0, y1, y2, y3⟩ := S3.out
  have hN : w.heap.size < ((w.alloc (.cells Msg0 42)).alloc (.cells #[.bool false] 4)).heap.size := by simp; omega
  have hN2 : w.heap.size + 1 < ((w.alloc (.cells Msg0 42)).alloc (.cells #[.bool false] 4)).heap.size := by simp
  have SX1 := S31.out.wr WR.out (lies_far1 y0 hg hN) (lies_far1 y1 hg hN)
  have SX2 := S32.out.wr WR.out (lies_far1 y2 hg hN) (lies_far1 y3 hg hN)
  have MX := Lib.hid (mess_wr M3.out WR.out (by omega))
  have NX : X.heap[n4]? = some (.cells #[.slice x0 n0 d0, .slice x1 n1 d1, .slice x2 n2 d2, .slice x3 n3 d3, .int .u16 (m : Int), .slice (some ⟨g, o, none⟩) L cc] 71 (0, 0)) := (WR.out.block n4 hn6 (by simp; omega)).trans N3
  have hnX : n4 < X.heap.size := Nat.lt_of_lt_of_le hn6 WR.out.size
  have NW := Lib.hid fun W (hw : Wr [w.heap.size] X W) => (hw.block n4 hnX (by simp; omega)).trans NX
  obtain ⟨⟨FK, hFK⟩, _⟩ := sld_flz (S := [w.heap.size, w.heap.size + 1]) SX1 (lies_far2 y0 hg hN2) (lies_far2 y1 hg hN2) OK1.out HL1.out (.slice x2 n2 d2) (.slice x3 n3 d3) (.slice (some ⟨g, o, none⟩) L cc) rfl rfl rfl
  obtain ⟨_, ⟨FV, hFV⟩⟩ := sld_flz (S := [w.heap.size, w.heap.size + 1]) SX2 (lies_far2 y2 hg hN2) (lies_far2 y3 hg hN2) OK2.out HL2.out (.slice x0 n0 d0) (.slice x1 n1 d1) (.slice (some ⟨g, o, none⟩) L cc) rfl rfl rfl
  have HK := Lib.hid hFK
  have HV := Lib.hid hFV
  have BX := Lib.hid TX.out.bel
  have L0 := Lib.hid (show Lq X X w.heap.size #[.int .i64 (lv : Int), .int .i64 (m : Int), .int .i64 (cnt : Int), .slice none 0 0, .slice none 0 0, .slice none 0 0, .slice none 0 0] (.slice none 0 0) (.slice none 0 0) 0 0 (vsF FK 0) (vsF FV 0) from ⟨Wr.refl _ _, hX, World.ownsRow_nil _ _ _ _, World.ownsRow_nil _ _ _ _, fun q hq => (by simp [Value.ownBlock] at hq), by omega⟩)
  have C0 : 3 ≤ 7 := by omega
  clear y0 y1 y2 y3 S3 S31 S32 SX1 SX2 WR M3 hFK hFV T3 T6 B4 B5 B6 N3 N4 N5 N6 hX Q7 O7 Z7 NX hN hN2
  go_wp2_with fail
  go_loopw [5] (fun iv wr => ∃ (k : Nat) (ks vs : Value), k ≤ m ∧ iv = .int .i64 (k : Int) ∧ Hid (Lq X wr w.heap.size #[.int .i64 (lv : Int), .int .i64 (m : Int), .int .i64 (cnt : Int), ks, vs, .slice none 0 0, .slice none 0 0] ks vs k k (vsF FK k) (vsF FV k))) (fun iv _ => m - (intOf iv).toNat)
  case atStart => exact ⟨0, _, _, by omega, rfl, L0⟩
  case round =>
    obtain ⟨k, ks, vs, hk, rfl, L1⟩ := hrel
    have N1 := NW.out _ L1.out.wr
    by_cases hlt : k < m
    · have hq : (k : Int) < (m : Int) := by omega
      have bk : k ≤ 200 := by omega
      go_wp2_with (first
        | (with_reducible refine wpList_load_row rfl 71 (.tmp 4) rfl n4 rfl 71 _ (0, 0) _ N1 Tryz.underlying71 rfl Z1.out ?_)
        | (go_at_call 39; (with_reducible refine (nCount _ g o L cc _ _ _ _ m hm rfl rfl rfl rfl).mono ?_); rintro e w8 ⟨rfl, hb8⟩; have L8 := Lib.hid (L1.out.below hb8); clear hb8))
      have L9 := Lib.hid (L8.out.below (Below.drew (Below.refl _ _)))
      refine Rg.noPanic ?_
      refine Rg.regionK (fun w' => w'.cell? ⟨w.heap.size, 3, none⟩ = some ks ∧ w'.cell? ⟨w.heap.size, 4, none⟩ = some vs ∧ w'.heap[n4]? = some (.cells #[.slice x0 n0 d0, .slice x1 n1 d1, .slice x2 n2 d2, .slice x3 n3 d3, .int .u16 (m : Int), .slice (some ⟨g, o, none⟩) L cc] 71 (0, 0))) (fun w' => w'.heap[n4]? = some (.cells #[.slice x0 n0 d0, .slice x1 n1 d1, .slice x2 n2 d2, .slice x3 n3 d3, .int .u16 (m : Int), .slice (some ⟨g, o, none⟩) L cc] 71 (0, 0))) (fun j => j == 9 || j == 10 || j == 15 || j == 16 || j == 17) 18 _ (by kernel_rfl) (by kernel_rfl) rfl ?_
      clear L8
      generalize w8.drew = w9 at *
      have N9 := NW.out _ L9.out.wr
      have S9 := and_assoc.1 ⟨L9.out.says, N9⟩
      refine Rg.takeT (i := 9) (v := ?rv9) rfl (by kernel_rfl) (by kernel_rfl) (by kernel_rfl) rfl (fun _ h => h.2.2) (fun _ _ _ h => h) ?rh9 N9 ?_
      case rh9 => (refine yield_row ?_ 71 (.tmp 4) ?_ n4 ?_ 71 _ (0, 0) _ ?_ Tryz.underlying71 rfl Z1.out <;> first | rfl | exact (fun _ h => h))
      simp only [Act.put, List.setIfInBounds_toArray, List.set_cons_zero, List.set_cons_succ]
      refine Rg.takeT (i := 10) (v := ?rv10) rfl (by kernel_rfl) (by kernel_rfl) (by kernel_rfl) rfl (fun _ h => h.2.2) (fun _ _ _ h => h) (Or.inl ⟨by rfl, ?rh10⟩) N9 ?_
      case rh10 => intro w hSw; (try dsimp only at hSw); go_simp; try with_reducible rfl
      simp only [Act.put, List.setIfInBounds_toArray, List.set_cons_zero, List.set_cons_succ]
      refine Rg.takeS (i := 0) (v := ?rv0) rfl (by kernel_rfl) (by kernel_rfl) (by kernel_rfl) rfl (by kernel_rfl) (fun _ _ _ h => h) (Or.inl ⟨by rfl, ?rh0⟩) S9 ?_
      case rh0 => intro w hSw; (try dsimp only at hSw); go_simp; try with_reducible rfl
      simp only [Act.put, List.setIfInBounds_toArray, List.set_cons_zero, List.set_cons_succ]
      refine Rg.takeS (i := 1) (v := ?rv1) rfl (by kernel_rfl) (by kernel_rfl) (by kernel_rfl) rfl (by kernel_rfl) (fun _ _ _ h => h) (Or.inl ⟨by rfl, ?rh1⟩) S9 ?_
      case rh1 => intro w hSw; (try dsimp only at hSw); go_simp; try with_reducible rfl
      simp only [Act.put, List.setIfInBounds_toArray, List.set_cons_zero, List.set_cons_succ]
      refine Rg.takeS (i := 2) (v := ?rv2) rfl (by kernel_rfl) (by kernel_rfl) (by kernel_rfl) rfl (by kernel_rfl) (fun _ _ _ h => h) ?rh2 S9 ?_
      case rh2 => (refine yield_row ?_ 71 (.tmp 4) ?_ n4 ?_ 71 _ (0, 0) _ ?_ Tryz.underlying71 rfl Z1.out <;> first | rfl | exact (fun _ h => h.2.2))
      simp only [Act.put, List.setIfInBounds_toArray, List.set_cons_zero, List.set_cons_succ]
      refine Rg.takeS (i := 3) (v := ?rv3) rfl (by kernel_rfl) (by kernel_rfl) (by kernel_rfl) rfl (by kernel_rfl) (fun _ _ _ h => h) (Or.inl ⟨by rfl, ?rh3⟩) S9 ?_
      case rh3 => intro w hSw; (try dsimp only at hSw); go_simp; try with_reducible rfl
      simp only [Act.put, List.setIfInBounds_toArray, List.set_cons_zero, List.set_cons_succ]
      refine Rg.takeS (i := 7) (v := ?rv7) rfl (by kernel_rfl) (by kernel_rfl) (by kernel_rfl) rfl (by kernel_rfl) (fun _ _ _ h => h) (Or.inl ⟨by rfl, ?rh7⟩) S9 ?_
      case rh7 => intro w hSw; (try dsimp only at hSw); go_simp; try with_reducible rfl
      simp only [Act.put, List.setIfInBounds_toArray, List.set_cons_zero, List.set_cons_succ]
      refine Rg.takeS (i := 8) (v := ?rv8) rfl (by kernel_rfl) (by kernel_rfl) (by kernel_rfl) rfl (by kernel_rfl) (fun _ _ _ h => h) (Or.inl ⟨by rfl, ?rh8⟩) S9 ?_
      case rh8 => intro w hSw; (try dsimp only at hSw); go_simp; try with_reducible rfl
      simp only [Act.put, List.setIfInBounds_toArray, List.set_cons_zero, List.set_cons_succ]
      obtain ⟨fa, fn, fc, hf⟩ : ∃ a n c, (FK k).v = .slice a n c := ⟨_, _, _, rfl⟩
      obtain ⟨ga, gn, gc, hgv⟩ : ∃ a n c, (FV k).v = .slice a n c := ⟨_, _, _, rfl⟩
      have K4 := HK.out.ask _ (L9.out.wr.more (by simp)) k hlt
      rw [hf] at K4
      refine Rg.oneS (i := 4) rfl (by kernel_rfl) rfl ?_
      go_wp2_with (go_at_call 41; (with_reducible refine K4.mono ?_); rintro e w10 ⟨rfl, hb10⟩; have L10 := Lib.hid (L9.out.below hb10); clear hb10)
      refine Rg.thence ⟨and_assoc.1 ⟨L10.out.says, NW.out _ L10.out.wr⟩, ?_⟩
      refine Rg.oneS (i := 5) rfl (by kernel_rfl) rfl ?_
      go_wp2_with fail
      have L11 := Lib.hid (L10.out.below (w' := w10.alloc (.cells #[.slice fa fn fc] 26)) ((Below.refl _ _).alloc (Nat.le_refl _) _))
      refine Rg.thence ⟨and_assoc.1 ⟨L11.out.says, NW.out _ L11.out.wr⟩, ?_⟩
      refine Rg.oneS (i := 6) rfl (by kernel_rfl) rfl ?_
      go_wp2_with (at_builtin; refine wpList_append_own_at _ rfl (.tmp 24) (.tmp 28) 22 rfl X.heap.size 26 iS (.slice none 0 0) 1 24 Tryz.underlying22 hiS hs0 hs1 hs2 rfl (by decide) ks k (vsF FK k) rfl L11.out.ok ⟨w10.heap.size, 0, none⟩ 1 1 [.slice fa fn fc] rfl rfl (cell_one_new _ _ _) (by simp [Value.oneCell']) (by unfold maxLen; omega) (by omega) L11.out.wr.size ?_; intro ks2 w12 O12' G12' _ hv12'; have L12 := Lib.hid (L11.out.growK O12' G12' hv12'); clear O12' G12' hv12')
      rw [← hf, ← vsF_succ] at L12
      obtain ⟨q2, c2, rfl, _⟩ := own_form L12.out.ok (by omega)
      refine Rg.thence ⟨and_assoc.1 ⟨L12.out.says, NW.out _ L12.out.wr⟩, ?_⟩
      refine Rg.takeS (i := 14) (v := ?rv14) rfl (by kernel_rfl) (by kernel_rfl) (by kernel_rfl) rfl (by kernel_rfl) (fun _ _ _ h => h) (Or.inl ⟨by rfl, ?rh14⟩) (and_assoc.1 ⟨L12.out.says, NW.out _ L12.out.wr⟩) ?_
      case rh14 => intro w hSw; (try dsimp only at hSw); go_simp; try with_reducible rfl
      simp only [Act.put, List.setIfInBounds_toArray, List.set_cons_zero, List.set_cons_succ]
      have K11 := HV.out.ask _ (L12.out.wr.more (by simp)) k hlt
      rw [hgv] at K11
      refine Rg.oneS (i := 11) rfl (by kernel_rfl) rfl ?_
      go_wp2_with (go_at_call 42; (with_reducible refine K11.mono ?_); rintro e w13 ⟨rfl, hb13⟩; have L13 := Lib.hid (L12.out.below hb13); clear hb13)
      refine Rg.thence ⟨and_assoc.1 ⟨L13.out.says, NW.out _ L13.out.wr⟩, ?_⟩
      refine Rg.oneS (i := 12) rfl (by kernel_rfl) rfl ?_
      go_wp2_with fail
      have L14 := Lib.hid (L13.out.below (w' := w13.alloc (.cells #[.slice ga gn gc] 26)) ((Below.refl _ _).alloc (Nat.le_refl _) _))
      refine Rg.thence ⟨and_assoc.1 ⟨L14.out.says, NW.out _ L14.out.wr⟩, ?_⟩
      refine Rg.oneS (i := 13) rfl (by kernel_rfl) rfl ?_
      go_wp2_with (at_builtin; refine wpList_append_own_at _ rfl (.tmp 31) (.tmp 35) 22 rfl X.heap.size 26 iS (.slice none 0 0) 1 24 Tryz.underlying22 hiS hs0 hs1 hs2 rfl (by decide) vs k (vsF FV k) rfl L14.out.ov ⟨w13.heap.size, 0, none⟩ 1 1 [.slice ga gn gc] rfl rfl (cell_one_new _ _ _) (by simp [Value.oneCell']) (by unfold maxLen; omega) (by omega) L14.out.wr.size ?_; intro vs2 w15 O15' G15' _ hv15'; have L15 := Lib.hid (L14.out.growV O15' G15' hv15'); clear O15' G15' hv15')
      rw [← hgv, ← vsF_succ] at L15
      obtain ⟨q3, c3, rfl, _⟩ := own_form L15.out.ov (by omega)
      refine Rg.thence ⟨and_assoc.1 ⟨L15.out.says, NW.out _ L15.out.wr⟩, ?_⟩
      have c15 := L15.out.says.1
      have f15 : w15.frozen? ⟨w.heap.size, 3, none⟩ = false := L15.out.frozen 3
      have L16 := Lib.hid (L15.out.set 3 (.slice (some ⟨q2, 0, none⟩) (k + 1) c2))
      have c16 : (w15.setCell ⟨w.heap.size, 3, none⟩ (.slice (some ⟨q2, 0, none⟩) (k + 1) c2)).cell? ⟨w.heap.size, 4, none⟩ = some vs := L16.out.cell 4
      have f16 : (w15.setCell ⟨w.heap.size, 3, none⟩ (.slice (some ⟨q2, 0, none⟩) (k + 1) c2)).frozen? ⟨w.heap.size, 4, none⟩ = false := L16.out.frozen 4
      have L17 := Lib.hid (L16.out.set 4 (.slice (some ⟨q3, 0, none⟩) (k + 1) c3))
      have N16 := NW.out _ L16.out.wr
      have N17 := NW.out _ L17.out.wr
      refine Rg.oneT (i := 15) rfl (by kernel_rfl) rfl ?_
      go_wp2_with fail
      refine Rg.thence ⟨N16, ?_⟩
      refine Rg.oneT (i := 16) rfl (by kernel_rfl) rfl ?_
      go_wp2_with fail
      refine Rg.thence ⟨N16, ?_⟩
      refine Rg.oneT (i := 17) rfl (by kernel_rfl) rfl ?_
      go_wp2_with fail
      refine Rg.thence ⟨N17, Rg.allUp (by kernel_rfl) (Rg.nop ?_) _⟩
      go_wp2_with fail
      exact ⟨⟨k + 1, _, _, by omega, by simp, L17⟩, by simp [intOf]; omega⟩
    · obtain rfl : k = m := by omega
      obtain ⟨q2, c2, rfl, _, _, hq2, hq3⟩ := own_form L1.out.ok hm0
      obtain ⟨q3, c3, rfl, _, _, hq4, hq5⟩ := own_form L1.out.ov hm0
      unfold maxLen at hq3 hq5
      by_cases h0 : lv = 0
      · skip
        have HZ := Lib.hid (show decide ((lv : Int) = 0) = true from decide_eq_true (by omega))
        have KL := Lib.hid fun W (hM : Mess W g o L cc n T id) => HR.out.leaf W (.slice x0 n0 d0) (.slice x1 n1 d1) (.slice x2 n2 d2) (.slice x3 n3 d3) hM rfl rfl rfl rfl
        rw [HZ.out] at KL
        have KW := Lib.hid HR.out.walk
        have MS := Lib.hid fun W (hw : Wr [w.heap.size] X W) => mess_wr MX.out hw (by omega)
        have H0 := Lib.hid h0
        clear h0
        go_wp2_with (first
          | (with_reducible refine wpList_load_row rfl 71 (.tmp 4) rfl n4 rfl 71 _ (0, 0) _ (NW.out _ L1.out.wr) Tryz.underlying71 rfl Z1.out ?_)
          | (go_at_call 39; (with_reducible refine (nCount _ g o L cc _ _ _ _ k hm rfl rfl rfl rfl).mono ?_); rintro e w8 ⟨rfl, hb8⟩; have L8 := Lib.hid (L1.out.below hb8); clear hb8)
          | (with_reducible refine wpList_load_row rfl 71 (.tmp 4) rfl n4 rfl 71 _ (0, 0) _ (NW.out _ L8.out.wr) Tryz.underlying71 rfl Z1.out ?_)
          | (go_at_call 43; (with_reducible refine (KL.out _ (MS.out _ L8.out.wr)).mono ?_); rintro e w9 ⟨rfl, hb9⟩; have L9 := Lib.hid (L8.out.below hb9); clear hb9)
          | (with_reducible refine wpList_load_row rfl 71 (.tmp 4) rfl n4 rfl 71 _ (0, 0) _ (NW.out _ L9.out.wr) Tryz.underlying71 rfl Z1.out ?_)
          | (go_at_call 46; (with_reducible refine (doorBytes _ g o L cc _ _ _ _ k hm rfl rfl rfl rfl hcc hct).mono ?_); rintro e w12 ⟨rfl, hb12⟩; have L12 := Lib.hid (L9.out.below hb12); have B12 := Lib.hid hb12; clear hb12)
          | (go_at_call 45; (with_reducible refine (KW.out _ w.heap.size _ _ _ _ _ _ (MS.out _ L12.out.wr) (by omega) ⟨Wr.refl _ _, L12.out.b0, World.ownsRow_nil _ _ _ _, fun f hf => by simp at hf, Nat.lt_of_lt_of_le L12.out.lt L12.out.wr.size⟩).mono ?_); rintro e w13 ⟨rfl, av, hs, hP, hA⟩; have A13 := Lib.hid hA; have P13 := Lib.hid hP; clear hA hP))
        have A14 := Lib.hid (A13.out.below (Below.drew (Below.refl _ _)))
        refine Rg.noPanic ?_
        refine Rg.regionK (fun w' => w'.heap[w.heap.size]? = some (.cells #[.int .i64 (lv : Int), .int .i64 (k : Int), .int .i64 (cnt : Int), .slice (some ⟨q2, 0, none⟩) k c2, .slice (some ⟨q3, 0, none⟩) k c3, .slice none 0 0, av] 42 (0, 0))) (fun w' => w'.heap[w.heap.size]? = some (.cells #[.int .i64 (lv : Int), .int .i64 (k : Int), .int .i64 (cnt : Int), .slice (some ⟨q2, 0, none⟩) k c2, .slice (some ⟨q3, 0, none⟩) k c3, .slice none 0 0, av] 42 (0, 0))) (fun _ => false) 5 _ (by kernel_rfl) (by kernel_rfl) rfl ?_
        clear A13
        generalize w13.drew = w14 at *
        obtain ⟨a4, d4, rfl, hle4, hmx4⟩ := own_slice A14.out.own
        unfold maxLen at hmx4
        have hs4 : hs.length ≤ 9223372036854775807 := by omega
        have b14 := A14.out.b0
        have ZM := Lib.hid (show (Tryz.prog.info? 42).map (·.size) = some (#[.int .i64 (lv : Int), .int .i64 (k : Int), .int .i64 (cnt : Int), .slice (some ⟨q2, 0, none⟩) k c2, .slice (some ⟨q3, 0, none⟩) k c3, .slice none 0 0, .slice a4 hs.length d4] : Array Value).size from szMsg)
        have OM := Lib.hid (show (#[.int .i64 (lv : Int), .int .i64 (k : Int), .int .i64 (cnt : Int), .slice (some ⟨q2, 0, none⟩) k c2, .slice (some ⟨q3, 0, none⟩) k c3, .slice none 0 0, .slice a4 hs.length d4] : Array Value).all (·.oneCell') = true from (by simp [Value.oneCell']))
        have WZ := Lib.hid (L12.out.wr.trans A14.out.wr)
        have e14 : w14.heap[w.heap.size + 1]? = some (.cells #[.bool false] 4 (0, 0)) := (WZ.out.block _ TX.out.lt (by simp)).trans TX.out.a1
        have QM := Lib.hid (show (#[.int .i64 (lv : Int), .int .i64 (k : Int), .int .i64 (cnt : Int), .slice (some ⟨q2, 0, none⟩) k c2, .slice (some ⟨q3, 0, none⟩) k c3, .slice none 0 0, .slice a4 hs.length d4] : Array Value).size = (#[.int .i64 (lv : Int), .int .i64 (k : Int), .int .i64 (cnt : Int), .slice (some ⟨q2, 0, none⟩) k c2, .slice (some ⟨q3, 0, none⟩) k c3, .slice none 0 0, .slice a4 hs.length d4] : Array Value).size from rfl)
        have c15 := Lib.hid (setRow_heap w14 w.heap.size _ (#[.int .i64 (lv : Int), .int .i64 (k : Int), .int .i64 (cnt : Int), .slice (some ⟨q2, 0, none⟩) k c2, .slice (some ⟨q3, 0, none⟩) k c3, .slice none 0 0, .slice a4 hs.length d4]) _ _ b14)
        have e15 : (w14.setRow w.heap.size (#[.int .i64 (lv : Int), .int .i64 (k : Int), .int .i64 (cnt : Int), .slice (some ⟨q2, 0, none⟩) k c2, .slice (some ⟨q3, 0, none⟩) k c3, .slice none 0 0, .slice a4 hs.length d4])).heap[w.heap.size + 1]? = some (.cells #[.bool false] 4 (0, 0)) := (setRow_other w14 _ _ _ (by omega)).trans e14
        have g15 : (w14.setRow w.heap.size (#[.int .i64 (lv : Int), .int .i64 (k : Int), .int .i64 (cnt : Int), .slice (some ⟨q2, 0, none⟩) k c2, .slice (some ⟨q3, 0, none⟩) k c3, .slice none 0 0, .slice a4 hs.length d4])).cell? ⟨w.heap.size + 1, 0, none⟩ = some (.bool false) := by simp [World.cell?, e15]
        have h15 : (w14.setRow w.heap.size (#[.int .i64 (lv : Int), .int .i64 (k : Int), .int .i64 (cnt : Int), .slice (some ⟨q2, 0, none⟩) k c2, .slice (some ⟨q3, 0, none⟩) k c3, .slice none 0 0, .slice a4 hs.length d4])).frozen? ⟨w.heap.size + 1, 0, none⟩ = false := by simp [World.frozen?, e15]
        refine Rg.takeS (i := 1) (v := ?zv1) rfl (by kernel_rfl) (by kernel_rfl) (by kernel_rfl) rfl (by kernel_rfl) (fun _ _ _ h => h) (Or.inl ⟨by rfl, ?zh1⟩) b14 ?_
        case zh1 => intro w hSw; (try dsimp only at hSw); go_simp; try with_reducible rfl
        simp only [Act.put, List.setIfInBounds_toArray, List.set_cons_zero, List.set_cons_succ]
        refine Rg.takeS (i := 2) (v := ?zv2) rfl (by kernel_rfl) (by kernel_rfl) (by kernel_rfl) rfl (by kernel_rfl) (fun _ _ _ h => h) (Or.inl ⟨by rfl, ?zh2⟩) b14 ?_
        case zh2 => intro w hSw; (try dsimp only at hSw); go_simp; try with_reducible rfl
        simp only [Act.put, List.setIfInBounds_toArray, List.set_cons_zero, List.set_cons_succ]
        refine Rg.takeS (i := 0) (v := ?zv0) rfl (by kernel_rfl) (by kernel_rfl) (by kernel_rfl) rfl (by kernel_rfl) (fun _ _ _ h => h) ?zh0 b14 ?_
        case zh0 => (refine yield_row ?_ 42 (.tmp 2) ?_ w.heap.size ?_ 42 _ (0, 0) _ ?_ Tryz.underlying42 rfl ZM.out <;> first | rfl | exact (fun _ h => h))
        simp only [Act.put, List.setIfInBounds_toArray, List.set_cons_zero, List.set_cons_succ]
        refine Rg.oneS (i := 3) rfl (by kernel_rfl) rfl ?_
        go_wp2_with (with_reducible refine wpList_store_row rfl 42 (.tmp 2) (.tmp 49) rfl w.heap.size (#[.int .i64 (lv : Int), .int .i64 (k : Int), .int .i64 (cnt : Int), .slice (some ⟨q2, 0, none⟩) k c2, .slice (some ⟨q3, 0, none⟩) k c3, .slice none 0 0, .slice a4 hs.length d4]) rfl rfl 42 _ b14 ZM.out QM.out OM.out ?_)
        refine Rg.thence ⟨c15.out, ?_⟩
        have WS := Lib.hid (((Wr.setRow (S := [w.heap.size, w.heap.size + 1]) (g := w.heap.size) w14 (#[.int .i64 (lv : Int), .int .i64 (k : Int), .int .i64 (cnt : Int), .slice (some ⟨q2, 0, none⟩) k c2, .slice (some ⟨q3, 0, none⟩) k c3, .slice none 0 0, .slice a4 hs.length d4]) (by simp)).trans (Wr.setCell (S := [w.heap.size, w.heap.size + 1]) (g := w.heap.size + 1) (o := 0) _ (.bool true) (by simp))))
        have c16 := Lib.hid (((Wr.setCell (S := [w.heap.size + 1]) (g := w.heap.size + 1) (o := 0) (w14.setRow w.heap.size (#[.int .i64 (lv : Int), .int .i64 (k : Int), .int .i64 (cnt : Int), .slice (some ⟨q2, 0, none⟩) k c2, .slice (some ⟨q3, 0, none⟩) k c3, .slice none 0 0, .slice a4 hs.length d4])) (.bool true) (by simp)).block w.heap.size (lt_of_obj c15.out) (by simp)).trans c15.out)
        have e16 := Lib.hid (setCell_heap (o := 0) (v := .bool true) e15)
        refine Rg.oneS (i := 4) rfl (by kernel_rfl) rfl ?_
        go_wp2_with fail
        refine Rg.thence ⟨c16.out, Rg.allUp (by kernel_rfl) (Rg.nop ?_) _⟩
        go_wp2_with fail
        obtain ⟨w16, e⟩ : ∃ W, W = (w14.setRow w.heap.size (#[.int .i64 (lv : Int), .int .i64 (k : Int), .int .i64 (cnt : Int), .slice (some ⟨q2, 0, none⟩) k c2, .slice (some ⟨q3, 0, none⟩) k c3, .slice none 0 0, .slice a4 hs.length d4])).setCell ⟨w.heap.size + 1, 0, none⟩ (.bool true) := ⟨_, rfl⟩
        rw [← e] at WS c16 e16 ⊢
        clear e
        refine leaves_cons (f := 36) (args := #[.pointer (some ⟨w.heap.size, 0, none⟩), .pointer (some ⟨w.heap.size + 1, 0, none⟩)]) (by simp) (by simp [go_sem]) ?_
        refine (idleR _ _ _).mono ?_
        rintro e u' w'' ⟨rfl, rfl, rfl⟩
        simp only [Leaves, settle]
        have WX := Lib.hid ((L12.out.wr.more (by simp)).trans ((A14.out.wr.more (by simp)).trans WS.out) : Wr [w.heap.size, w.heap.size + 1] X w'')
        have OKf := own_wrS L12.out.ok ((A14.out.wr.more (by simp)).trans WS.out) (fun s hs => by simp at hs; omega)
        have OVf := own_wrS L12.out.ov ((A14.out.wr.more (by simp)).trans WS.out) (fun s hs => by simp at hs; omega)
        have hX12 := L12.out.wr.size
        have OAf := own_wrS A14.out.own WS.out (fun s hs => by simp at hs; omega)
        rw [vsF_map] at OKf OVf
        obtain ⟨r1, r2, r3, r4⟩ := own_flr OKf (fun f hf => (by obtain ⟨i, hi, rfl⟩ := List.mem_map.1 hf; exact HK.out.rb _ WX.out i (List.mem_range.1 hi)))
        obtain ⟨s1, s2, s3, s4⟩ := own_flr OVf (fun f hf => (by obtain ⟨i, hi, rfl⟩ := List.mem_map.1 hf; exact HV.out.rb _ WX.out i (List.mem_range.1 hi)))
        obtain ⟨t1, t2, t3, t4⟩ := own_flr OAf (fun f hf => (by
          obtain ⟨z1, z2, q, z3, z4, z5⟩ := A14.out.rbs f hf
          refine rb_wr z1 WS.out (fun b o e => ?_)
          rw [z3] at e
          injection e with e
          injection e with e _
          subst e
          simp
          omega))
        injection r3 with u1 u2 u3
        injection s3 with v1 v2 v3
        injection t3 with x1' x2' x3'
        subst u1 u3 v1 v3 x1' x3'
        obtain ⟨p1, p2⟩ := P13.out
        rw [p1] at t4
        refine ⟨.tuple #[.agg (#[.int .i64 (lv : Int), .int .i64 (k : Int), .int .i64 (cnt : Int), .slice (some ⟨q2, 0, none⟩) k c2, .slice (some ⟨q3, 0, none⟩) k c3, .slice none 0 0, .slice a4 hs.length d4]), .bool true], results_rc Tryz.results15 _ _ w.heap.size (w.heap.size + 1) _ _ true rfl rfl c16.out Tryz.underlying42 rfl ZM.out (by simp [go_sem, World.cell?, e16.out]), .agg (#[.int .i64 (lv : Int), .int .i64 (k : Int), .int .i64 (cnt : Int), .slice (some ⟨q2, 0, none⟩) k c2, .slice (some ⟨q3, 0, none⟩) k c3, .slice none 0 0, .slice a4 hs.length d4]), rfl, ⟨_, _, _, _, _, _, _, _, _, hs, by rw [← p1], r4, fun i hi => ?_, s4, fun i hi => ?_, t4, p2, ?_⟩, ?_⟩
        · rw [← HK.out.xs i hi]; simp [List.getD_eq_getElem?_getD, hi]
        · rw [← HV.out.xs i hi]; simp [List.getD_eq_getElem?_getD, hi]
        · exact Or.inl ⟨H0.out, rfl⟩
        · exact (BX.out.trans ((WX.out).below (fun s hs => by simp at hs; omega) BX.out.size))
      · skip
        have HZ := Lib.hid (show decide ((lv : Int) = 0) = false from decide_eq_false (by omega))
        have KL := Lib.hid fun W (hM : Mess W g o L cc n T id) => HR.out.leaf W (.slice x0 n0 d0) (.slice x1 n1 d1) (.slice x2 n2 d2) (.slice x3 n3 d3) hM rfl rfl rfl rfl
        rw [HZ.out] at KL
        have KW := Lib.hid HR.out.walk
        have MS := Lib.hid fun W (hw : Wr [w.heap.size] X W) => mess_wr MX.out hw (by omega)
        have KU := Lib.hid (HR.out.subs (by omega))
        have H0 := Lib.hid h0
        clear h0
        go_wp2_with (first
          | (with_reducible refine wpList_load_row rfl 71 (.tmp 4) rfl n4 rfl 71 _ (0, 0) _ (NW.out _ L1.out.wr) Tryz.underlying71 rfl Z1.out ?_)
          | (go_at_call 39; (with_reducible refine (nCount _ g o L cc _ _ _ _ k hm rfl rfl rfl rfl).mono ?_); rintro e w8 ⟨rfl, hb8⟩; have L8 := Lib.hid (L1.out.below hb8); clear hb8)
          | (with_reducible refine wpList_load_row rfl 71 (.tmp 4) rfl n4 rfl 71 _ (0, 0) _ (NW.out _ L8.out.wr) Tryz.underlying71 rfl Z1.out ?_)
          | (go_at_call 43; (with_reducible refine (KL.out _ (MS.out _ L8.out.wr)).mono ?_); rintro e w9 ⟨rfl, hb9⟩; have L9 := Lib.hid (L8.out.below hb9); clear hb9)
          | (with_reducible refine wpList_load_row rfl 71 (.tmp 4) rfl n4 rfl 71 _ (0, 0) _ (NW.out _ L9.out.wr) Tryz.underlying71 rfl Z1.out ?_)
          | (go_at_call 44; (with_reducible refine (KU.out _ _ _ _ _ (MS.out _ L9.out.wr) rfl rfl rfl rfl).mono ?_); rintro e w10 ⟨qs, rfl, hU⟩; have U10 := Lib.hid hU; have L10 := Lib.hid (L9.out.below hU.bel); clear hU; have s10 : w10.cell? ⟨w.heap.size, 5, none⟩ = some (.slice none 0 0) := L10.out.cell 5; have f10 : w10.frozen? ⟨w.heap.size, 5, none⟩ = false := L10.out.frozen 5; have L11 := Lib.hid (show Lq X (w10.setCell ⟨w.heap.size, 5, none⟩ (.slice (some ⟨qs, 0, none⟩) k k)) w.heap.size #[.int .i64 (lv : Int), .int .i64 (k : Int), .int .i64 (cnt : Int), .slice (some ⟨q2, 0, none⟩) k c2, .slice (some ⟨q3, 0, none⟩) k c3, .slice (some ⟨qs, 0, none⟩) k k, .slice none 0 0] (.slice (some ⟨q2, 0, none⟩) k c2) (.slice (some ⟨q3, 0, none⟩) k c3) k k (vsF FK k) (vsF FV k) from L10.out.set 5 (.slice (some ⟨qs, 0, none⟩) k k)))
          | (with_reducible refine wpList_load_row rfl 71 (.tmp 4) rfl n4 rfl 71 _ (0, 0) _ (NW.out _ L11.out.wr) Tryz.underlying71 rfl Z1.out ?_)
          | (go_at_call 46; (with_reducible refine (doorBytes _ g o L cc _ _ _ _ k hm rfl rfl rfl rfl hcc hct).mono ?_); rintro e w12 ⟨rfl, hb12⟩; have L12 := Lib.hid (L11.out.below hb12); have B12 := Lib.hid hb12; clear hb12)
          | (go_at_call 45; (with_reducible refine (KW.out _ w.heap.size _ _ _ _ _ _ (MS.out _ L12.out.wr) (by omega) ⟨Wr.refl _ _, L12.out.b0, World.ownsRow_nil _ _ _ _, fun f hf => by simp at hf, Nat.lt_of_lt_of_le L12.out.lt L12.out.wr.size⟩).mono ?_); rintro e w13 ⟨rfl, av, hs, hP, hA⟩; have A13 := Lib.hid hA; have P13 := Lib.hid hP; clear hA hP))
        have A14 := Lib.hid (A13.out.below (Below.drew (Below.refl _ _)))
        refine Rg.noPanic ?_
        refine Rg.regionK (fun w' => w'.heap[w.heap.size]? = some (.cells #[.int .i64 (lv : Int), .int .i64 (k : Int), .int .i64 (cnt : Int), .slice (some ⟨q2, 0, none⟩) k c2, .slice (some ⟨q3, 0, none⟩) k c3, .slice (some ⟨qs, 0, none⟩) k k, av] 42 (0, 0))) (fun w' => w'.heap[w.heap.size]? = some (.cells #[.int .i64 (lv : Int), .int .i64 (k : Int), .int .i64 (cnt : Int), .slice (some ⟨q2, 0, none⟩) k c2, .slice (some ⟨q3, 0, none⟩) k c3, .slice (some ⟨qs, 0, none⟩) k k, av] 42 (0, 0))) (fun _ => false) 5 _ (by kernel_rfl) (by kernel_rfl) rfl ?_
        clear A13
        generalize w13.drew = w14 at *
        obtain ⟨a4, d4, rfl, hle4, hmx4⟩ := own_slice A14.out.own
        unfold maxLen at hmx4
        have hs4 : hs.length ≤ 9223372036854775807 := by omega
        have b14 := A14.out.b0
        have ZM := Lib.hid (show (Tryz.prog.info? 42).map (·.size) = some (#[.int .i64 (lv : Int), .int .i64 (k : Int), .int .i64 (cnt : Int), .slice (some ⟨q2, 0, none⟩) k c2, .slice (some ⟨q3, 0, none⟩) k c3, .slice (some ⟨qs, 0, none⟩) k k, .slice a4 hs.length d4] : Array Value).size from szMsg)
        have OM := Lib.hid (show (#[.int .i64 (lv : Int), .int .i64 (k : Int), .int .i64 (cnt : Int), .slice (some ⟨q2, 0, none⟩) k c2, .slice (some ⟨q3, 0, none⟩) k c3, .slice (some ⟨qs, 0, none⟩) k k, .slice a4 hs.length d4] : Array Value).all (·.oneCell') = true from (by simp [Value.oneCell']))
        have WZ := Lib.hid (L12.out.wr.trans A14.out.wr)
        have e14 : w14.heap[w.heap.size + 1]? = some (.cells #[.bool false] 4 (0, 0)) := (WZ.out.block _ TX.out.lt (by simp)).trans TX.out.a1
        have QM := Lib.hid (show (#[.int .i64 (lv : Int), .int .i64 (k : Int), .int .i64 (cnt : Int), .slice (some ⟨q2, 0, none⟩) k c2, .slice (some ⟨q3, 0, none⟩) k c3, .slice (some ⟨qs, 0, none⟩) k k, .slice a4 hs.length d4] : Array Value).size = (#[.int .i64 (lv : Int), .int .i64 (k : Int), .int .i64 (cnt : Int), .slice (some ⟨q2, 0, none⟩) k c2, .slice (some ⟨q3, 0, none⟩) k c3, .slice (some ⟨qs, 0, none⟩) k k, .slice a4 hs.length d4] : Array Value).size from rfl)
        have c15 := Lib.hid (setRow_heap w14 w.heap.size _ (#[.int .i64 (lv : Int), .int .i64 (k : Int), .int .i64 (cnt : Int), .slice (some ⟨q2, 0, none⟩) k c2, .slice (some ⟨q3, 0, none⟩) k c3, .slice (some ⟨qs, 0, none⟩) k k, .slice a4 hs.length d4]) _ _ b14)
        have e15 : (w14.setRow w.heap.size (#[.int .i64 (lv : Int), .int .i64 (k : Int), .int .i64 (cnt : Int), .slice (some ⟨q2, 0, none⟩) k c2, .slice (some ⟨q3, 0, none⟩) k c3, .slice (some ⟨qs, 0, none⟩) k k, .slice a4 hs.length d4])).heap[w.heap.size + 1]? = some (.cells #[.bool false] 4 (0, 0)) := (setRow_other w14 _ _ _ (by omega)).trans e14
        have g15 : (w14.setRow w.heap.size (#[.int .i64 (lv : Int), .int .i64 (k : Int), .int .i64 (cnt : Int), .slice (some ⟨q2, 0, none⟩) k c2, .slice (some ⟨q3, 0, none⟩) k c3, .slice (some ⟨qs, 0, none⟩) k k, .slice a4 hs.length d4])).cell? ⟨w.heap.size + 1, 0, none⟩ = some (.bool false) := by simp [World.cell?, e15]
        have h15 : (w14.setRow w.heap.size (#[.int .i64 (lv : Int), .int .i64 (k : Int), .int .i64 (cnt : Int), .slice (some ⟨q2, 0, none⟩) k c2, .slice (some ⟨q3, 0, none⟩) k c3, .slice (some ⟨qs, 0, none⟩) k k, .slice a4 hs.length d4])).frozen? ⟨w.heap.size + 1, 0, none⟩ = false := by simp [World.frozen?, e15]
        refine Rg.takeS (i := 1) (v := ?yv1) rfl (by kernel_rfl) (by kernel_rfl) (by kernel_rfl) rfl (by kernel_rfl) (fun _ _ _ h => h) (Or.inl ⟨by rfl, ?yh1⟩) b14 ?_
        case yh1 => intro w hSw; (try dsimp only at hSw); go_simp; try with_reducible rfl
        simp only [Act.put, List.setIfInBounds_toArray, List.set_cons_zero, List.set_cons_succ]
        refine Rg.takeS (i := 2) (v := ?yv2) rfl (by kernel_rfl) (by kernel_rfl) (by kernel_rfl) rfl (by kernel_rfl) (fun _ _ _ h => h) (Or.inl ⟨by rfl, ?yh2⟩) b14 ?_
        case yh2 => intro w hSw; (try dsimp only at hSw); go_simp; try with_reducible rfl
        simp only [Act.put, List.setIfInBounds_toArray, List.set_cons_zero, List.set_cons_succ]
        refine Rg.takeS (i := 0) (v := ?yv0) rfl (by kernel_rfl) (by kernel_rfl) (by kernel_rfl) rfl (by kernel_rfl) (fun _ _ _ h => h) ?yh0 b14 ?_
        case yh0 => (refine yield_row ?_ 42 (.tmp 2) ?_ w.heap.size ?_ 42 _ (0, 0) _ ?_ Tryz.underlying42 rfl ZM.out <;> first | rfl | exact (fun _ h => h))
        simp only [Act.put, List.setIfInBounds_toArray, List.set_cons_zero, List.set_cons_succ]
        refine Rg.oneS (i := 3) rfl (by kernel_rfl) rfl ?_
        go_wp2_with (with_reducible refine wpList_store_row rfl 42 (.tmp 2) (.tmp 49) rfl w.heap.size (#[.int .i64 (lv : Int), .int .i64 (k : Int), .int .i64 (cnt : Int), .slice (some ⟨q2, 0, none⟩) k c2, .slice (some ⟨q3, 0, none⟩) k c3, .slice (some ⟨qs, 0, none⟩) k k, .slice a4 hs.length d4]) rfl rfl 42 _ b14 ZM.out QM.out OM.out ?_)
        refine Rg.thence ⟨c15.out, ?_⟩
        have WS := Lib.hid (((Wr.setRow (S := [w.heap.size, w.heap.size + 1]) (g := w.heap.size) w14 (#[.int .i64 (lv : Int), .int .i64 (k : Int), .int .i64 (cnt : Int), .slice (some ⟨q2, 0, none⟩) k c2, .slice (some ⟨q3, 0, none⟩) k c3, .slice (some ⟨qs, 0, none⟩) k k, .slice a4 hs.length d4]) (by simp)).trans (Wr.setCell (S := [w.heap.size, w.heap.size + 1]) (g := w.heap.size + 1) (o := 0) _ (.bool true) (by simp))))
        have c16 := Lib.hid (((Wr.setCell (S := [w.heap.size + 1]) (g := w.heap.size + 1) (o := 0) (w14.setRow w.heap.size (#[.int .i64 (lv : Int), .int .i64 (k : Int), .int .i64 (cnt : Int), .slice (some ⟨q2, 0, none⟩) k c2, .slice (some ⟨q3, 0, none⟩) k c3, .slice (some ⟨qs, 0, none⟩) k k, .slice a4 hs.length d4])) (.bool true) (by simp)).block w.heap.size (lt_of_obj c15.out) (by simp)).trans c15.out)
        have e16 := Lib.hid (setCell_heap (o := 0) (v := .bool true) e15)
        refine Rg.oneS (i := 4) rfl (by kernel_rfl) rfl ?_
        go_wp2_with fail
        refine Rg.thence ⟨c16.out, Rg.allUp (by kernel_rfl) (Rg.nop ?_) _⟩
        go_wp2_with fail
        obtain ⟨w16, e⟩ : ∃ W, W = (w14.setRow w.heap.size (#[.int .i64 (lv : Int), .int .i64 (k : Int), .int .i64 (cnt : Int), .slice (some ⟨q2, 0, none⟩) k c2, .slice (some ⟨q3, 0, none⟩) k c3, .slice (some ⟨qs, 0, none⟩) k k, .slice a4 hs.length d4])).setCell ⟨w.heap.size + 1, 0, none⟩ (.bool true) := ⟨_, rfl⟩
        rw [← e] at WS c16 e16 ⊢
        clear e
        refine leaves_cons (f := 36) (args := #[.pointer (some ⟨w.heap.size, 0, none⟩), .pointer (some ⟨w.heap.size + 1, 0, none⟩)]) (by simp) (by simp [go_sem]) ?_
        refine (idleR _ _ _).mono ?_
        rintro e u' w'' ⟨rfl, rfl, rfl⟩
        simp only [Leaves, settle]
        have WX := Lib.hid ((L12.out.wr.more (by simp)).trans ((A14.out.wr.more (by simp)).trans WS.out) : Wr [w.heap.size, w.heap.size + 1] X w'')
        have OKf := own_wrS L12.out.ok ((A14.out.wr.more (by simp)).trans WS.out) (fun s hs => by simp at hs; omega)
        have OVf := own_wrS L12.out.ov ((A14.out.wr.more (by simp)).trans WS.out) (fun s hs => by simp at hs; omega)
        have hX12 := L12.out.wr.size
        have OAf := own_wrS A14.out.own WS.out (fun s hs => by simp at hs; omega)
        rw [vsF_map] at OKf OVf
        obtain ⟨r1, r2, r3, r4⟩ := own_flr OKf (fun f hf => (by obtain ⟨i, hi, rfl⟩ := List.mem_map.1 hf; exact HK.out.rb _ WX.out i (List.mem_range.1 hi)))
        obtain ⟨s1, s2, s3, s4⟩ := own_flr OVf (fun f hf => (by obtain ⟨i, hi, rfl⟩ := List.mem_map.1 hf; exact HV.out.rb _ WX.out i (List.mem_range.1 hi)))
        obtain ⟨t1, t2, t3, t4⟩ := own_flr OAf (fun f hf => (by
          obtain ⟨z1, z2, q, z3, z4, z5⟩ := A14.out.rbs f hf
          refine rb_wr z1 WS.out (fun b o e => ?_)
          rw [z3] at e
          injection e with e
          injection e with e _
          subst e
          simp
          omega))
        injection r3 with u1 u2 u3
        injection s3 with v1 v2 v3
        injection t3 with x1' x2' x3'
        subst u1 u3 v1 v3 x1' x3'
        obtain ⟨p1, p2⟩ := P13.out
        rw [p1] at t4
        refine ⟨.tuple #[.agg (#[.int .i64 (lv : Int), .int .i64 (k : Int), .int .i64 (cnt : Int), .slice (some ⟨q2, 0, none⟩) k c2, .slice (some ⟨q3, 0, none⟩) k c3, .slice (some ⟨qs, 0, none⟩) k k, .slice a4 hs.length d4]), .bool true], results_rc Tryz.results15 _ _ w.heap.size (w.heap.size + 1) _ _ true rfl rfl c16.out Tryz.underlying42 rfl ZM.out (by simp [go_sem, World.cell?, e16.out]), .agg (#[.int .i64 (lv : Int), .int .i64 (k : Int), .int .i64 (cnt : Int), .slice (some ⟨q2, 0, none⟩) k c2, .slice (some ⟨q3, 0, none⟩) k c3, .slice (some ⟨qs, 0, none⟩) k k, .slice a4 hs.length d4]), rfl, ⟨_, _, _, _, _, _, _, _, _, hs, by rw [← p1], r4, fun i hi => ?_, s4, fun i hi => ?_, t4, p2, ?_⟩, ?_⟩
        · rw [← HK.out.xs i hi]; simp [List.getD_eq_getElem?_getD, hi]
        · rw [← HV.out.xs i hi]; simp [List.getD_eq_getElem?_getD, hi]
        · refine Or.inr ⟨by have := H0.out; omega, qs, rfl, fun i hi => ?_⟩
          have W10 : Wr [w.heap.size, w.heap.size + 1] w10 w'' := (Wr.setCell (g := w.heap.size) (o := 5) w10 (.slice (some ⟨qs, 0, none⟩) k k) (by simp)).trans ((Wr.of_below B12.out).trans ((A14.out.wr.more (by simp)).trans WS.out))
          have hq := U10.out.hg
          have hq9 := L9.out.wr.size
          have hc := U10.out.cell (i := i) (by rw [HLS.out (by have := H0.out; omega)]; exact hi)
          rw [← hc]
          have hb := W10.block qs (lt_of_obj U10.out.row) (by simp; have := L9.out.lt; omega)
          simp only [World.cell?, hb]
        · exact (BX.out.trans ((WX.out).below (fun s hs => by simp at hs; omega) BX.out.size))
end Go.Proofs.YtegohkgmamnkdaaGreat.Msg
