/- A map's message: its keys and values as sliced buffers that hold the node's fields. Condition: the bytes are a message. -/
import Derived.Test.YtegohkgmamnkdaaGreatRdB
import Derived.Test.YtegohkgmamnkdaaGreatImM
set_option linter.unusedVariables false
namespace Go.Proofs.YtegohkgmamnkdaaGreat.Msg
open Go.ChangeShapes Go.WideShapes Go.ChangeAt Go.RowKit
open Go.Proofs.YtegohkgmamnkdaaGreat.Dig Go.Proofs.YtegohkgmamnkdaaGreat.Mem Go.Proofs.YtegohkgmamnkdaaGreat.Rb
open Go.Proofs.YtegohkgmamnkdaaGreat.Cnt (encs enc Nums64)

/-- A sliced buffer that holds m fields. -/
def Sld (w : World) (K0 K1 : Value) (fs : List Fld) (m : Nat) : Prop :=
  ∃ a n c a' q d os, K0 = .slice a n c ∧ K1 = .slice a' q d ∧ RB w a n c (cat fs) ∧ RB w a' q d os ∧ n ≤ 60000 ∧ q ≤ 400 ∧ q % 2 = 0 ∧
    ∀ i, i < m → i * 2 ≤ q ∧ total (fs.take i) = (if i = 0 then 0 else off os (i - 1)) ∧ total (fs.take (i + 1)) = (if i * 2 < q then off os i else n)
theorem Sld.below {w w' : World} {K0 K1 : Value} {fs : List Fld} {m : Nat} (h : Sld w K0 K1 fs m) (hb : Below w.heap.size w w') : Sld w' K0 K1 fs m := by
  obtain ⟨a, n, c, a', q, d, os, h1, h2, h3, h4, h5⟩ := h
  exact ⟨a, n, c, a', q, d, os, h1, h2, h3.below hb (Nat.le_refl _), h4.below hb (Nat.le_refl _), h5⟩
theorem Sld.wr {S : List Nat} {w w' : World} {K0 K1 : Value} {fs : List Fld} {m : Nat} (h : Sld w K0 K1 fs m) (hw : Wr S w w') (h0 : ∀ a n c, K0 = .slice a n c → ∀ b o, a = some ⟨b, o, none⟩ → b ∉ S) (h1 : ∀ a n c, K1 = .slice a n c → ∀ b o, a = some ⟨b, o, none⟩ → b ∉ S) : Sld w' K0 K1 fs m := by
  obtain ⟨a, n, c, a', q, d, os, e1, e2, h3, h4, h5⟩ := h
  exact ⟨a, n, c, a', q, d, os, e1, e2, rb_wr h3 hw (h0 _ _ _ e1), rb_wr h4 hw (h1 _ _ _ e2), h5⟩
theorem Wr.setRow {S : List Nat} {g : Nat} (w : World) (cs : Array Value) (hg : g ∈ S) : Wr S w (w.setRow g cs) :=
  ⟨rfl, rfl, rfl, by simp [World.setRow], fun k _ hk => setRow_other w g k cs (by rintro rfl; exact hk hg)⟩
theorem Sld.one {w : World} {K0 K1 : Value} {fs : List Fld} {m : Nat} (h : Sld w K0 K1 fs m) : K0.oneCell' = true ∧ K1.oneCell' = true := by
  obtain ⟨a, n, c, a', q, d, os, rfl, rfl, _⟩ := h
  exact ⟨rfl, rfl⟩
theorem vec_rb' {w : World} {g o L cc i c : Nat} {T ys : List Nat} (h : RB w (some ⟨g, o, none⟩) L cc T) (V : Vec T i c ys) (q : Nat) (hy : ys.length = q) : RB w (cutA (some ⟨g, o, none⟩) cc (ind T i + 4)) q (cc - (ind T i + 4)) ys := by
  have v1 := V.fit
  have hl := h.len
  have := h.cut (lo := ind T i + 4) (hi := ind T i + 4 + q) (by omega) (by omega)
  rw [Nat.add_sub_cancel_left, ← hy, V.ys] at this
  rw [hy] at this
  exact this
theorem blk_rb {w : World} {g M n : Nat} {xs : List Nat} (h : Blk w g M xs) (hn : xs.length = n) (hM : n ≤ M) (ht : M ≤ maxLen) (hb : ∀ x ∈ xs, x < 256) : RB w (some ⟨g, 0, none⟩) n M xs :=
  ⟨hn, hM, ht, hb, fun h0 => ⟨g, 0, rfl, fun i hi => by rw [Nat.zero_add]; exact h.cell hi⟩⟩
theorem adr_byte : ∀ m, ∀ x ∈ adr m, x < 256
  | 0, x, h => by simp [adr] at h
  | m + 1, x, h => by
    rw [adr] at h
    rcases List.mem_append.1 h with h | h
    · exact adr_byte m x h
    · exact le_byte 2 _ x h

/-- A slice lies in block g or behind N. -/
def Lies (N g : Nat) (K : Value) : Prop := ∀ a n c, K = .slice a n c → ∀ b o, a = some ⟨b, o, none⟩ → b = g ∨ N ≤ b
theorem lies_cut (N g o cc J n k : Nat) : Lies N g (.slice (cutA (some ⟨g, o, none⟩) cc J) n k) := fun a n c e b o' ea => by
  injection e with e1 _ _
  rw [← e1] at ea
  unfold cutA at ea
  split at ea
  · injection ea with ea; injection ea with ea _; exact Or.inl ea.symm
  · simp only [Option.map_some, Addr.add] at ea
    split at ea
    all_goals (injection ea with ea; injection ea with ea _; exact Or.inl ea.symm)
theorem lies_new (N g g2 n k : Nat) (h : N ≤ g2) : Lies N g (.slice (some ⟨g2, 0, none⟩) n k) := fun a n c e b o' ea => by
  injection e with e1 _ _
  rw [← e1] at ea
  injection ea with ea
  injection ea with ea _
  exact Or.inr (by omega)
/-- What the message of a node of a map tells. -/
def Told1 (T : List Nat) (fs gs : List Fld) (ls : List Nat) (m lv : Nat) : Prop :=
  (lv = 0 ∧ MapTold T fs gs m 3 4 (m - 1) m lv 10 (ofb gs 1 (m - 1))) ∨ (0 < lv ∧ (∀ x ∈ gs, x.n = 20) ∧ MapTold T fs gs m 7 8 (encs 0 ls).length (sumU ls) lv 11 (encs 0 ls))

theorem kvP {w : World} {g o L cc n m lv : Nat} {T : List Nat} {fs gs : List Fld} {ls : List Nat} (h : Mess w g o L cc n T fidMap) (ok1 : ∀ f ∈ fs, FldOk w f) (ok2 : ∀ f ∈ gs, FldOk w f) (l1 : fs.length = m) (l2 : gs.length = m) (hm : m ≤ 200) (hm0 : 0 < m) (k0 : 0 < total fs) (kb : total fs ≤ 20010) (vb : total gs ≤ 20010) (t : Told1 T fs gs ls m lv) :
    Calls Tryz.prog 106 #[.slice (some ⟨g, o, none⟩) L cc] w fun e w' => ∃ K0 K1 V0 V1, e = .returned (.tuple #[.agg #[K0, K1], .agg #[V0, V1], .int .u16 (m : Int)]) ∧ Sld w' K0 K1 fs m ∧ Sld w' V0 V1 gs m ∧ (Lies w.heap.size g K0 ∧ Lies w.heap.size g K1 ∧ Lies w.heap.size g V0 ∧ Lies w.heap.size g V1) ∧ Below w.heap.size w w' := by
  have hcct := h.rb.top
  unfold maxLen at hcct
  have c1 := cat_length ok1
  have c2 := cat_length ok2
  have key : ∀ {w'}, Below w.heap.size w w' → Vec T 0 (cat fs).length (cat fs) → Vec T 1 (m - 1) (ofb fs 1 (m - 1)) → Sld w' (.slice (cutA (some ⟨g, o, none⟩) cc (ind T 0 + 4)) (cat fs).length (cc - (ind T 0 + 4))) (.slice (cutA (some ⟨g, o, none⟩) cc (ind T 1 + 4)) (2 * (m - 1)) (cc - (ind T 1 + 4))) fs m := fun hb V0 V1 =>
    ⟨_, _, _, _, _, _, ofb fs 1 (m - 1), rfl, rfl, (vec_rb' h.rb V0 _ rfl).below hb (Nat.le_refl _), (vec_rb' h.rb V1 _ (ofb_length fs 1 (m - 1))).below hb (Nat.le_refl _), by omega, by omega, by omega, fun i hi => ⟨by omega, by
      rw [c1]; exact ofb_ends l1 (by omega) hi⟩⟩
  rcases t with ⟨_, t⟩ | ⟨_, h20, t⟩
  · refine (kvLeaf h (by omega) h.rb.le t.keys rfl (by omega) (by omega) t.koff (ofb_length fs 1 (m - 1)) hm hm0 t.vals rfl (by omega) t.last (ofb_length gs 1 (m - 1))).mono ?_
    rintro e w' ⟨rfl, hb⟩
    refine ⟨_, _, _, _, rfl, key hb t.keys t.koff, ?_, ⟨lies_cut _ _ _ _ _ _ _, lies_cut _ _ _ _ _ _ _, lies_cut _ _ _ _ _ _ _, lies_cut _ _ _ _ _ _ _⟩, hb⟩
    exact ⟨_, _, _, _, _, _, ofb gs 1 (m - 1), rfl, rfl, (vec_rb' h.rb t.vals _ rfl).below hb (Nat.le_refl _), (vec_rb' h.rb t.last _ (ofb_length gs 1 (m - 1))).below hb (Nat.le_refl _), by omega, by omega, by omega, fun i hi => ⟨by omega, by
      rw [c2]; exact ofb_ends l2 (by omega) hi⟩⟩
  · have t20 := total_20 h20
    refine (kvInn h (by omega) h.rb.le t.keys rfl (by omega) (by omega) t.koff (ofb_length fs 1 (m - 1)) hm hm0 (t.none_ 3 (by omega) (by omega) (by omega) (by omega) (by omega) (by omega) (by omega) (by omega)) t.vals rfl (by rw [c2, t20, l2])).mono ?_
    rintro e w' ⟨g2, S2, rfl, hS, hB, hg2, hb⟩
    refine ⟨_, _, _, _, rfl, key hb t.keys t.koff, ?_, ⟨lies_cut _ _ _ _ _ _ _, lies_cut _ _ _ _ _ _ _, lies_cut _ _ _ _ _ _ _, lies_new _ _ _ _ _ hg2⟩, hb⟩
    exact ⟨_, _, _, _, _, _, adr m, rfl, rfl, (vec_rb' h.rb t.vals _ rfl).below hb (Nat.le_refl _), blk_rb hB (by rw [adr_length, hS]) (Nat.le_refl _) (by unfold maxLen; omega) (adr_byte m), by omega, by omega, by omega, fun i hi => ⟨by omega, by
      rw [c2, hS]; exact adr_ends l2 h20 hi hm⟩⟩
end Go.Proofs.YtegohkgmamnkdaaGreat.Msg
/- A map's message, taken apart: GetKeysAndValues and NodeFromBytes, walked. Condition: the bytes are a message. -/
set_option linter.unusedVariables false
namespace Go.Proofs.YtegohkgmamnkdaaGreat.Msg
open Go.ChangeShapes Go.WideShapes Go.ChangeAt Go.RowKit
open Go.Proofs.YtegohkgmamnkdaaGreat.Dig Go.Proofs.YtegohkgmamnkdaaGreat.Mem Go.Proofs.YtegohkgmamnkdaaGreat.Rb
open Go.Proofs.YtegohkgmamnkdaaGreat.Cnt (encs enc Nums64)

theorem fld_below {w w' : World} {f : Fld} (h : FldOk w f) (hb : Below w.heap.size w w') : FldOk w' f := ⟨h.1.below hb (Nat.le_refl _), h.2⟩
theorem szSB : (Tryz.prog.info? 68).map (·.size) = some 2 := by kernel_rfl
theorem one2 {a b : Value} (h : a.oneCell' = true ∧ b.oneCell' = true) : (#[a, b] : Array Value).all (·.oneCell') = true := by simp [h.1, h.2]
/-- What a message's keys and values come to. -/
def KvOk (w0 w : World) (g : Nat) (fs gs : List Fld) (m : Nat) (K0 K1 V0 V1 : Value) : Prop :=
  Sld w K0 K1 fs m ∧ Sld w V0 V1 gs m ∧ (Lies w0.heap.size g K0 ∧ Lies w0.heap.size g K1 ∧ Lies w0.heap.size g V0 ∧ Lies w0.heap.size g V1) ∧ Below w0.heap.size w0 w
theorem lies_far {N g b1 b2 : Nat} {K : Value} (h : Lies N g K) (hg : g < b1) (h1 : b1 < b2) (h2 : b2 < N) : ∀ a n c, K = .slice a n c → ∀ b o, a = some ⟨b, o, none⟩ → b ∉ [b1, b2] := fun a n c e b o ea hm => by
  have := h a n c e b o ea
  simp at hm
  omega
theorem lies_less {N N' g : Nat} {K : Value} (h : Lies N g K) (hN : N' ≤ N) : Lies N' g K := fun a n c e b o ea => by
  rcases h a n c e b o ea with h | h
  · exact Or.inl h
  · exact Or.inr (by omega)

set_option maxRecDepth 100000 in
set_option maxHeartbeats 2000000 in
theorem gkvP {w : World} {g o L cc n m lv : Nat} {T : List Nat} {fs gs : List Fld} {ls : List Nat} (h : Mess w g o L cc n T fidMap) (ok1 : ∀ f ∈ fs, FldOk w f) (ok2 : ∀ f ∈ gs, FldOk w f) (l1 : fs.length = m) (l2 : gs.length = m) (hm : m ≤ 200) (hm0 : 0 < m) (k0 : 0 < total fs) (kb : total fs ≤ 20010) (vb : total gs ≤ 20010) (t : Told1 T fs gs ls m lv) :
    Calls Tryz.prog 82 #[.slice (some ⟨g, o, none⟩) L cc] w fun e w' => ∃ K0 K1 V0 V1, e = .returned (.tuple #[.agg #[K0, K1], .agg #[V0, V1], .int .u16 (m : Int)]) ∧ KvOk w w' g fs gs m K0 K1 V0 V1 := by
  have hg : g < w.heap.size := RB.lt_ h.rb (by have := h.l8; omega)
  have hcc := h.rb.le
  have hct := h.rb.top
  unfold maxLen at hct
  have T0 := Lib.hid (rows2_start w 68 68 #[.slice none 0 0, .slice none 0 0] #[.slice none 0 0, .slice none 0 0])
  have F1 := Lib.hid (fileId (h.below T0.out.bel) ⟨#[84, 85, 80, 77]⟩ txtP)
  have KP := Lib.hid (kvP (h.below T0.out.bel) (fun f hf => fld_below (ok1 f hf) T0.out.bel) (fun f hf => fld_below (ok2 f hf) T0.out.bel) l1 l2 hm hm0 k0 kb vb t)
  have SZ := Lib.hid szSB
  clear h ok1 ok2 l1 l2 hm0 k0 kb vb t
  go_enter Tryz.func82, Tryz.ntmps82
  go_wp2_with (first
    | (go_at_call 88; (with_reducible refine F1.out.mono ?_); rintro e w1 ⟨rfl, rfl⟩)
    | (go_at_call 106; (with_reducible refine KP.out.mono ?_); rintro e w1 ⟨K0, K1, V0, V1, rfl, s1, s2, s3, hb1⟩; have T1 := Lib.hid (T0.out.later hb1); have S1 := Lib.hid s1; have S2 := Lib.hid s2; have S3 := Lib.hid s3; have O1 := Lib.hid (one2 s1.one); have O2 := Lib.hid (one2 s2.one); have Q1 := Lib.hid (show (#[.slice none 0 0, .slice none 0 0] : Array Value).size = (#[K0, K1] : Array Value).size from rfl); have Q2 := Lib.hid (show (#[.slice none 0 0, .slice none 0 0] : Array Value).size = (#[V0, V1] : Array Value).size from rfl); have Z1 := Lib.hid (show (Tryz.prog.info? 68).map (·.size) = some (#[K0, K1] : Array Value).size from szSB); have Z2 := Lib.hid (show (Tryz.prog.info? 68).map (·.size) = some (#[V0, V1] : Array Value).size from szSB); clear s1 s2 s3 hb1)
    | (with_reducible refine wpList_store_row rfl 68 (.tmp 2) (.tmp 12) rfl w.heap.size #[K0, K1] rfl rfl 68 _ T1.out.a0 Z1.out Q1.out O1.out ?_; have T2 := Lib.hid (T1.out.set0 #[K0, K1]))
    | (with_reducible refine wpList_store_row rfl 68 (.tmp 3) (.tmp 13) rfl (w.heap.size + 1) #[V0, V1] rfl rfl 68 _ T2.out.a1 Z2.out Q2.out O2.out ?_; have T3 := Lib.hid (T2.out.set1 #[V0, V1])))
  refine bodyPost_ret (results_rrt rfl _ _ w.heap.size (w.heap.size + 1) #[K0, K1] #[V0, V1] _ rfl rfl T3.out.a0 T3.out.a1 Tryz.underlying68 rfl SZ.out SZ.out) rfl ?_
  obtain ⟨y0, y1, y2, y3⟩ := S3.out
  have hN : (w.heap.size + 1) < ((w.alloc (.cells #[.slice none 0 0, .slice none 0 0] 68)).alloc (.cells #[.slice none 0 0, .slice none 0 0] 68)).heap.size := by simp
  have hW : Wr [w.heap.size, w.heap.size + 1] w1 ((w1.setRow w.heap.size #[K0, K1]).setRow (w.heap.size + 1) #[V0, V1]) := (Wr.setRow _ _ (by simp)).trans (Wr.setRow _ _ (by simp))
  exact ⟨K0, K1, V0, V1, rfl, S1.out.wr hW (lies_far y0 hg (by omega) hN) (lies_far y1 hg (by omega) hN), S2.out.wr hW (lies_far y2 hg (by omega) hN) (lies_far y3 hg (by omega) hN),
    ⟨lies_less y0 (by omega), lies_less y1 (by omega), lies_less y2 (by omega), lies_less y3 (by omega)⟩, T3.out.bel⟩
end Go.Proofs.YtegohkgmamnkdaaGreat.Msg
/- A node out of a map's message, walked. Condition: the bytes are a message. -/
set_option linter.unusedVariables false
namespace Go.Proofs.YtegohkgmamnkdaaGreat.Msg
open Go.ChangeShapes Go.WideShapes Go.ChangeAt Go.RowKit
open Go.Proofs.YtegohkgmamnkdaaGreat.Dig Go.Proofs.YtegohkgmamnkdaaGreat.Mem Go.Proofs.YtegohkgmamnkdaaGreat.Rb
open Go.Proofs.YtegohkgmamnkdaaGreat.Cnt (encs enc Nums64)

theorem szN : (Tryz.prog.info? 71).map (·.size) = some 6 := by kernel_rfl
theorem lies_far1 {N g b1 : Nat} {K : Value} (h : Lies N g K) (hg : g < b1) (h2 : b1 < N) : ∀ a n c, K = .slice a n c → ∀ b o, a = some ⟨b, o, none⟩ → b ∉ [b1] := fun a n c e b o ea hm => by
  have := h a n c e b o ea
  simp at hm
  omega
theorem Lies.less {M N g : Nat} {K : Value} (h : Lies N g K) (hM : M ≤ N) : Lies M g K := fun a n c e b o ea => by
  rcases h a n c e b o ea with h1 | h1
  · exact Or.inl h1
  · exact Or.inr (Nat.le_trans hM h1)
theorem sld_form {w : World} {K0 K1 : Value} {fs : List Fld} {m : Nat} (h : Sld w K0 K1 fs m) : ∃ a n c a' q d, K0 = .slice a n c ∧ K1 = .slice a' q d := by
  obtain ⟨a, n, c, a', q, d, os, h1, h2, _⟩ := h
  exact ⟨a, n, c, a', q, d, h1, h2⟩

set_option maxRecDepth 100000 in
set_option maxHeartbeats 2000000 in
theorem nodeP {w : World} {g o L cc n m lv : Nat} {T : List Nat} {fs gs : List Fld} {ls : List Nat} (h : Mess w g o L cc n T fidMap) (ok1 : ∀ f ∈ fs, FldOk w f) (ok2 : ∀ f ∈ gs, FldOk w f) (l1 : fs.length = m) (l2 : gs.length = m) (hm : m ≤ 200) (hm0 : 0 < m) (k0 : 0 < total fs) (kb : total fs ≤ 20010) (vb : total gs ≤ 20010) (t : Told1 T fs gs ls m lv) :
    Calls Tryz.prog 37 #[.slice (some ⟨g, o, none⟩) L cc] w fun e w' => ∃ K0 K1 V0 V1, e = .returned (.agg #[K0, K1, V0, V1, .int .u16 (m : Int), .slice (some ⟨g, o, none⟩) L cc]) ∧ Sld w' K0 K1 fs m ∧ Sld w' V0 V1 gs m ∧ (Lies w.heap.size g K0 ∧ Lies w.heap.size g K1 ∧ Lies w.heap.size g V0 ∧ Lies w.heap.size g V1) ∧ Below w.heap.size w w' := by
  have hg : g < w.heap.size := RB.lt_ h.rb (by have := h.l8; omega)
  have hcc := h.rb.le
  have hct := h.rb.top
  unfold maxLen at hct
  have T0 := Lib.hid (row1_start w 71 #[.slice none 0 0, .slice none 0 0, .slice none 0 0, .slice none 0 0, .int .u16 0, .slice none 0 0])
  have KP := Lib.hid (gkvP (h.below T0.out.bel) (fun f hf => fld_below (ok1 f hf) T0.out.bel) (fun f hf => fld_below (ok2 f hf) T0.out.bel) l1 l2 hm hm0 k0 kb vb t)
  have bm : m ≤ 65535 := by omega
  clear h ok1 ok2 l1 l2 hm0 k0 kb vb t
  go_enter Tryz.func37, Tryz.ntmps37
  go_wp2_with (first
    | (go_at_call 82; (with_reducible refine KP.out.mono ?_); rintro e w1 ⟨K0, K1, V0, V1, rfl, s1, s2, s3, hb1⟩; have T1 := Lib.hid (T0.out.later hb1); have S1 := Lib.hid s1; have S2 := Lib.hid s2; have S3 := Lib.hid s3; obtain ⟨x0, n0, d0, x1, n1, d1, rfl, rfl⟩ := sld_form s1; obtain ⟨x2, n2, d2, x3, n3, d3, rfl, rfl⟩ := sld_form s2; clear s1 s2 s3 hb1; have T2 := Lib.hid ((T1.out.alloc (.cells #[.slice x0 n0 d0, .slice x1 n1 d1] 68)).alloc (.cells #[.slice x2 n2 d2, .slice x3 n3 d3] 68)); have Q1 := Lib.hid (show (#[.slice none 0 0, .slice none 0 0, .slice none 0 0, .slice none 0 0, .int .u16 0, .slice none 0 0] : Array Value).size = (#[.slice x0 n0 d0, .slice x1 n1 d1, .slice x2 n2 d2, .slice x3 n3 d3, .int .u16 (m : Int), .slice (some ⟨g, o, none⟩) L cc] : Array Value).size from rfl); have Z1 := Lib.hid (show (Tryz.prog.info? 71).map (·.size) = some (#[.slice x0 n0 d0, .slice x1 n1 d1, .slice x2 n2 d2, .slice x3 n3 d3, .int .u16 (m : Int), .slice (some ⟨g, o, none⟩) L cc] : Array Value).size from szN); have O1 := Lib.hid (show (#[.slice x0 n0 d0, .slice x1 n1 d1, .slice x2 n2 d2, .slice x3 n3 d3, .int .u16 (m : Int), .slice (some ⟨g, o, none⟩) L cc] : Array Value).all (·.oneCell') = true from (by simp [Value.oneCell'])))
    | (with_reducible refine wpList_store_row rfl 71 (.tmp 2) (.tmp 16) rfl w.heap.size #[.slice x0 n0 d0, .slice x1 n1 d1, .slice x2 n2 d2, .slice x3 n3 d3, .int .u16 (m : Int), .slice (some ⟨g, o, none⟩) L cc] rfl rfl 71 _ T2.out.a0 Z1.out Q1.out O1.out ?_))
  refine bodyPost_ret (results_cell_row rfl _ _ w.heap.size 71 #[.slice x0 n0 d0, .slice x1 n1 d1, .slice x2 n2 d2, .slice x3 n3 d3, .int .u16 (m : Int), .slice (some ⟨g, o, none⟩) L cc] (0, 0) _ rfl (setRow_heap _ _ _ _ _ _ T2.out.a0) Tryz.underlying71 rfl Z1.out) rfl ?_
  obtain ⟨y0, y1, y2, y3⟩ := S3.out
  have hN : w.heap.size < (w.alloc (.cells #[.slice none 0 0, .slice none 0 0, .slice none 0 0, .slice none 0 0, .int .u16 0, .slice none 0 0] 71)).heap.size := by simp
  have hb : Below w1.heap.size w1 ((w1.alloc (.cells #[.slice x0 n0 d0, .slice x1 n1 d1] 68)).alloc (.cells #[.slice x2 n2 d2, .slice x3 n3 d3] 68)) := ((Below.refl _ _).alloc (Nat.le_refl _) _).alloc (by simp) _
  exact ⟨_, _, _, _, rfl, (S1.out.below hb).wr (Wr.setRow (S := [w.heap.size]) _ _ (by simp)) (lies_far1 y0 hg hN) (lies_far1 y1 hg hN), (S2.out.below hb).wr (Wr.setRow (S := [w.heap.size]) _ _ (by simp)) (lies_far1 y2 hg hN) (lies_far1 y3 hg hN), ⟨y0.less (Nat.le_of_lt hN), y1.less (Nat.le_of_lt hN), y2.less (Nat.le_of_lt hN), y3.less (Nat.le_of_lt hN)⟩, below_setRow T2.out.bel (Nat.le_refl _) _⟩
end Go.Proofs.YtegohkgmamnkdaaGreat.Msg
