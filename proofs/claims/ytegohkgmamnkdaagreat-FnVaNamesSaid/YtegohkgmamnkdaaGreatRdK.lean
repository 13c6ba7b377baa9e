/- The addresses in a message told one by one, walked. Condition: the bytes are a message. -/
import Derived.Test.YtegohkgmamnkdaaGreatRdF
import Derived.Test.YtegohkgmamnkdaaGreatRdJ
set_option linter.unusedVariables false
namespace Go.Proofs.YtegohkgmamnkdaaGreat.Msg
open Go.ChangeShapes Go.WideShapes Go.ChangeAt Go.RowKit
open Go.Proofs.YtegohkgmamnkdaaGreat.Dig Go.Proofs.YtegohkgmamnkdaaGreat.Mem Go.Proofs.YtegohkgmamnkdaaGreat.Rb Go.Proofs.YtegohkgmamnkdaaGreat.Hn

abbrev Z20 : Array Value := #[.int .u8 0, .int .u8 0, .int .u8 0, .int .u8 0, .int .u8 0, .int .u8 0, .int .u8 0, .int .u8 0, .int .u8 0, .int .u8 0, .int .u8 0, .int .u8 0, .int .u8 0, .int .u8 0, .int .u8 0, .int .u8 0, .int .u8 0, .int .u8 0, .int .u8 0, .int .u8 0]
/-- The k-th twenty bytes. -/
def chunk (ys : List Nat) (k : Nat) : List Nat := (ys.drop (k * 20)).take 20
/-- The addresses are the first k pieces of twenty bytes. -/
def Pieces (ys : List Nat) (k : Nat) (fs : List Fld) : Prop := fs.length = k ∧ ∀ i, i < k → (fs.getD i nof).xs = chunk ys i
theorem Pieces.more {ys : List Nat} {k : Nat} {fs : List Fld} {f : Fld} (h : Pieces ys k fs) (hf : f.xs = chunk ys k) : Pieces ys (k + 1) (fs ++ [f]) := by
  obtain ⟨h1, h2⟩ := h
  refine ⟨by simp [h1], fun i hi => ?_⟩
  rcases Nat.lt_or_ge i k with hlt | hge
  · rw [← h2 i hlt, List.getD_eq_getElem?_getD, List.getD_eq_getElem?_getD, List.getElem?_append_left (by omega)]
  · obtain rfl : i = k := by omega
    rw [← hf, List.getD_eq_getElem?_getD, List.getElem?_append_right (by omega), h1]
    simp
theorem tbl_wr {w w' : World} {t g o L cc B0 : Nat} {T : List Nat} (h : Tbl w t g o L cc T) (hw : Wr [B0] w w') (ht : t ≠ B0) (hg : g ≠ B0) : Tbl w' t g o L cc T := by
  obtain ⟨⟨ty, h1⟩, h2, h3, h4⟩ := h
  refine ⟨⟨ty, (hw.block t (lt_of_obj h1) (by simpa using ht)).trans h1⟩, rb_wr h2 hw (fun b o' e => ?_), h3, h4⟩
  injection e with e
  injection e with e _
  subst e
  simpa using hg
theorem ad_start {w wA : World} {B0 : Nat} {c0 c1 c2 c3 c4 c5 : Value} (h : Ad wA w B0 c0 c1 c2 c3 c4 c5 (.slice none 0 0) []) : Ad w w B0 c0 c1 c2 c3 c4 c5 (.slice none 0 0) [] :=
  ⟨Wr.refl _ _, h.b0, World.ownsRow_nil _ _ _ _, fun f hf => by simp at hf, Nat.lt_of_lt_of_le h.lt h.wr.size⟩
theorem Ad.shift {wA w w' : World} {B0 : Nat} {c0 c1 c2 c3 c4 c5 a1 av : Value} {fs hs : List Fld} (h : Ad wA w B0 c0 c1 c2 c3 c4 c5 a1 fs) (h' : Ad w w' B0 c0 c1 c2 c3 c4 c5 av hs) : Ad wA w' B0 c0 c1 c2 c3 c4 c5 av hs := by
  have hs := h.wr.size
  refine ⟨h.wr.trans h'.wr, h'.b0, ⟨h'.own.1, ?_⟩, fun f hf => ?_, h.lt⟩
  · rcases h'.own.2 with e | ⟨g, cap, cur, e1, e2, e3⟩
    · exact Or.inl e
    · exact Or.inr ⟨g, cap, cur, e1, Nat.le_trans hs e2, e3⟩
  · obtain ⟨r1, r2, q, r3, r4, r5⟩ := h'.rbs f hf
    exact ⟨r1, r2, q, r3, Nat.le_trans hs r4, r5⟩
theorem rb_vec {w w' : World} {g o L cc i c B0 : Nat} {T ys : List Nat} (h : RB w (some ⟨g, o, none⟩) L cc T) (V : Vec T i c ys) (q : Nat) (hy : ys.length = q) (hw : Wr [B0] w w') (hg : g ≠ B0) : RB w' (cutA (some ⟨g, o, none⟩) cc (ind T i + 4)) q (cc - (ind T i + 4)) ys :=
  rb_wr (vec_rb' h V q hy) hw (fun b o' e => by
    have := lies_cut (w.heap.size + b + 1) g o cc (ind T i + 4) q (cc - (ind T i + 4)) _ _ _ rfl b o' e
    simp only [List.mem_singleton]
    omega)

set_option maxRecDepth 100000 in
theorem noAssert (w : World) : Calls Tryz.prog 123 #[.bool false] w fun e w' => e = .returned (.tuple #[]) ∧ w = w' := by
  go_enter Tryz.func123, Tryz.ntmps123
  go_wp2
  go_end0
  exact ⟨rfl, rfl⟩

set_option maxRecDepth 100000 in
set_option maxHeartbeats 2000000 in
theorem walkA {w : World} {g o L cc n mm cv B0 : Nat} {T ys : List Nat} {c0 c1 c2 c3 c4 c5 : Value} (h : Mess w g o L cc n T fidAdr) (hg : g ≠ B0) (hA : Ad w w B0 c0 c1 c2 c3 c4 c5 (.slice none 0 0) []) (V : Vec T 2 cv ys) (hl : ys.length = cv) (hcv : cv = 20 * mm) (hm : mm ≤ 200) :
    Calls Tryz.prog 90 #[.slice (some ⟨g, o, none⟩) L cc, .func (.func 47) #[] #[.pointer (some ⟨B0, 0, none⟩)]] w fun e w' => e = .returned Value.nilIface ∧ ∃ av hs, Pieces ys mm hs ∧ Ad w w' B0 c0 c1 c2 c3 c4 c5 av hs := by
  have hcct := h.rb.top
  have hLc := h.rb.le
  unfold maxLen at hcct
  have KR := Lib.hid (rootA h.rb h.top h.pos4)
  have KA := Lib.hid fun (w1 : World) (t : Nat) (h1 : Tbl w1 t g o L cc T) => aAA h1 h.m V hl (by omega)
  have RA := Lib.hid fun w' (hw : Wr [B0] w w') => rb_vec h.rb V cv hl hw hg
  obtain ⟨a7, ha7⟩ := cutA_some ⟨g, o, none⟩ cc (ind T 2 + 4)
  obtain ⟨j7, hj7⟩ : ∃ j, j = cc - (ind T 2 + 4) := ⟨_, rfl⟩
  rw [ha7, ← hj7] at KA RA
  have hlen7 : cv ≤ j7 := by have := V.fit; have := h.rb.len; omega
  have bj7 : j7 ≤ 9223372036854775807 := by omega
  have e1 : (cv : Int).tdiv 20 = (mm : Int) := by rw [Int.tdiv_eq_ediv_of_nonneg (by omega)]; omega
  have bcv : cv ≤ 4000 := by omega
  have hby : ∀ x ∈ ys, x < 256 := (RA.out w (Wr.refl _ _)).byte
  have HA := Lib.hid hA
  have HL := Lib.hid hl
  have HG := Lib.hid hg
  have HC := Lib.hid hcv
  have HB := Lib.hid hby
  clear h V hl ha7 hj7 hA hcv hby hg
  go_enter Tryz.func90, Tryz.ntmps90
  go_wp2_with (first
    | (go_at_call 124; (with_reducible refine KR.out.mono ?_); rintro e w1 ⟨t, rfl, ht, h1, hb1⟩; have A1 := Lib.hid (HA.out.below hb1); have H1 := Lib.hid h1; clear h1 hb1 ht)
    | (go_at_call 125; (with_reducible refine (KA.out _ _ H1.out).mono ?_); rintro e w2 ⟨rfl, hw2⟩; have A2 := Lib.hid (A1.out.below (drew_below hw2)); have H2 := Lib.hid (tbl_of H1.out hw2); clear hw2))
  have WR2 := Lib.hid A2.out.wr
  go_loopw [7] (fun iv wr => ∃ (k : Nat) (av : Value) (hs : List Fld), k ≤ mm ∧ iv = .int .i64 (k : Int) ∧ Hid (Pieces ys k hs) ∧ Hid (Ad w wr B0 c0 c1 c2 c3 c4 c5 av hs)) (fun iv _ => mm - (intOf iv).toNat)
  case atStart => exact ⟨0, _, _, by omega, rfl, Lib.hid ⟨rfl, fun i hi => absurd hi (by omega)⟩, A2⟩
  case round =>
    obtain ⟨k, av, hs, hk, rfl, P0, A3⟩ := hrel
    by_cases hlt : k < mm
    · have hq : (k : Int) < (mm : Int) := by omega
      have bk : k ≤ 200 := by omega
      obtain ⟨lo, hlo⟩ : ∃ x : Nat, x = k * 20 := ⟨_, rfl⟩
      obtain ⟨hi, hhi⟩ : ∃ x : Nat, x = (k + 1) * 20 := ⟨_, rfl⟩
      have f1 : (k : Int) * 20 = (lo : Int) := by omega
      have f2 : ((k : Int) + 1) * 20 = (hi : Int) := by omega
      have bhi : hi ≤ cv := by rw [hhi, HC.out]; omega
      have f3 : lo ≤ hi := by omega
      have f4 : hi - lo = 20 := by omega
      have CL := cutLH (k := .i64) (k' := .i64) (some a7) cv j7 lo hi 20 f3 (by omega) f4
      have RC := (RA.out _ A3.out.wr).cut f3 bhi
      rw [f4, hlo] at RC
      have RCk := Lib.hid (show RB _ _ _ _ (chunk ys k) from RC)
      rw [← hlo] at RCk
      obtain ⟨ch, hch⟩ : ∃ x, x = chunk ys k := ⟨_, rfl⟩
      rw [← hch] at RCk
      have HCH := Lib.hid hch
      have lch : ch.length = 20 := RCk.out.len
      have bch := Lib.hid RCk.out.byte
      have SZ := Lib.hid (size20 lch)
      have OC := Lib.hid (one_cells ch)
      have ZC := Lib.hid (show Z20.size = (Arr .u8 ch).size by rw [Arr_size, lch]; rfl)
      have LC := Lib.hid lch
      have hn := Lib.hid (show hs.length ≤ 200 by have := P0.out.1; omega)
      clear hlo hhi RC hch f3 lch
      go_wp2_with (first
        | (go_at_call 119; (with_reducible refine (newHash _ _ _ ch RCk.out).mono ?_); rintro e w4 ⟨rfl, hb4⟩; have A4 := Lib.hid ((A3.out.below hb4).below ((Below.refl _ _).alloc (Nat.le_refl _) (.cells (Arr .u8 ch) 85))); clear hb4)
        | (with_reducible refine store_new (A := Z20) (t := 85) rfl 85 (.tmp 8) (.tmp 28) rfl (Arr .u8 ch) rfl rfl SZ.out ZC.out OC.out ?_)
        | (with_reducible refine wpList_load_row rfl 85 (.tmp 8) rfl _ rfl 85 _ (0, 0) _ (heap_alloc_new _ _) Tryz.underlying85 rfl SZ.out ?_)
        | (go_at_call 47; (with_reducible refine (pick A4.out LC.out bch.out hn.out).mono ?_); rintro e w5 ⟨av5, f5, rfl, hf5, hA5⟩; have A5 := Lib.hid hA5; have P5 := Lib.hid (P0.out.more (hf5.trans HCH.out)); clear hA5 hf5))
      refine ⟨⟨k + 1, av5, _, by omega, by simp, P5, A5⟩, by simp [intOf]; omega⟩
    · obtain rfl : k = mm := by omega
      go_wp2_with fail
      go_ret
      exact ⟨rfl, av, hs, P0.out, A3.out⟩


set_option maxRecDepth 100000 in
set_option maxHeartbeats 2000000 in
theorem walkInn {w : World} {g o L cc n mm cv B0 : Nat} {T ys : List Nat} {c0 c1 c2 c3 c4 c5 : Value} (h : Mess w g o L cc n T fidMap) (hg : g ≠ B0) (hA : Ad w w B0 c0 c1 c2 c3 c4 c5 (.slice none 0 0) []) (V : Vec T 7 cv ys) (hl : ys.length = cv) (hcv : cv = 20 * mm) (hm : mm ≤ 200) (F3 : fld T 3 = 0) (F6 : fld T 6 = 0) :
    Calls Tryz.prog 89 #[.slice (some ⟨g, o, none⟩) L cc, .func (.func 47) #[] #[.pointer (some ⟨B0, 0, none⟩)]] w fun e w' => e = .returned Value.nilIface ∧ ∃ av hs, Pieces ys mm hs ∧ Ad w w' B0 c0 c1 c2 c3 c4 c5 av hs := by
  have hcct := h.rb.top
  have hLc := h.rb.le
  unfold maxLen at hcct
  have KR := Lib.hid (rootP h.rb h.top h.pos4)
  have KA := Lib.hid fun (w1 : World) (t : Nat) (h1 : Tbl w1 t g o L cc T) => pAA h1 h.m V hl (by omega)
  have KV := Lib.hid fun (w1 : World) (t : Nat) (h1 : Tbl w1 t g o L cc T) => pVAL0 h1 h.m F6
  have KI := Lib.hid fun (w1 : World) (t : Nat) (h1 : Tbl w1 t g o L cc T) => pVI0 h1 h.m F3
  have RA := Lib.hid fun w' (hw : Wr [B0] w w') => rb_vec h.rb V cv hl hw hg
  obtain ⟨a7, ha7⟩ := cutA_some ⟨g, o, none⟩ cc (ind T 7 + 4)
  obtain ⟨j7, hj7⟩ : ∃ j, j = cc - (ind T 7 + 4) := ⟨_, rfl⟩
  rw [ha7, ← hj7] at KA RA
  have hlen7 : cv ≤ j7 := by have := V.fit; have := h.rb.len; omega
  have bj7 : j7 ≤ 9223372036854775807 := by omega
  have e1 : (cv : Int).tdiv 20 = (mm : Int) := by rw [Int.tdiv_eq_ediv_of_nonneg (by omega)]; omega
  have bcv : cv ≤ 4000 := by omega
  have hby : ∀ x ∈ ys, x < 256 := (RA.out w (Wr.refl _ _)).byte
  have HA := Lib.hid hA
  have HL := Lib.hid hl
  have HG := Lib.hid hg
  have HC := Lib.hid hcv
  have HB := Lib.hid hby
  clear h V hl ha7 hj7 hA hcv hby hg F3 F6
  go_enter Tryz.func89, Tryz.ntmps89
  go_wp2_with (first
    | (go_at_call 117; (with_reducible refine KR.out.mono ?_); rintro e w1 ⟨t, rfl, ht, h1, hb1⟩; have A1 := Lib.hid (HA.out.below hb1); have H1 := Lib.hid h1; have NT := Lib.hid (show t ≠ B0 by have := HA.out.lt; omega); clear h1 hb1 ht)
    | (go_at_call 118; (with_reducible refine (KA.out _ _ H1.out).mono ?_); rintro e w2 ⟨rfl, hw2⟩; have A2 := Lib.hid (A1.out.below (drew_below hw2)); have H2 := Lib.hid (tbl_of H1.out hw2); clear hw2))
  have WR2 := Lib.hid A2.out.wr
  have S2 := Lib.hid (ad_start A2.out)
  go_loopw [7] (fun iv wr => ∃ (k : Nat) (av : Value) (hs : List Fld), k ≤ mm ∧ iv = .int .i64 (k : Int) ∧ Hid (Pieces ys k hs) ∧ Hid (Ad w2 wr B0 c0 c1 c2 c3 c4 c5 av hs)) (fun iv _ => mm - (intOf iv).toNat)
  case atStart => exact ⟨0, _, _, by omega, rfl, Lib.hid ⟨rfl, fun i hi => absurd hi (by omega)⟩, S2⟩
  case round =>
    obtain ⟨k, av, hs, hk, rfl, P0, A3⟩ := hrel
    by_cases hlt : k < mm
    · have hq : (k : Int) < (mm : Int) := by omega
      have bk : k ≤ 200 := by omega
      obtain ⟨lo, hlo⟩ : ∃ x : Nat, x = k * 20 := ⟨_, rfl⟩
      obtain ⟨hi, hhi⟩ : ∃ x : Nat, x = (k + 1) * 20 := ⟨_, rfl⟩
      have f1 : (k : Int) * 20 = (lo : Int) := by omega
      have f2 : ((k : Int) + 1) * 20 = (hi : Int) := by omega
      have bhi : hi ≤ cv := by rw [hhi, HC.out]; omega
      have f3 : lo ≤ hi := by omega
      have f4 : hi - lo = 20 := by omega
      have CL := cutLH (k := .i64) (k' := .i64) (some a7) cv j7 lo hi 20 f3 (by omega) f4
      have RC := (RA.out _ (WR2.out.trans A3.out.wr)).cut f3 bhi
      rw [f4, hlo] at RC
      have RCk := Lib.hid (show RB _ _ _ _ (chunk ys k) from RC)
      rw [← hlo] at RCk
      obtain ⟨ch, hch⟩ : ∃ x, x = chunk ys k := ⟨_, rfl⟩
      rw [← hch] at RCk
      have HCH := Lib.hid hch
      have lch : ch.length = 20 := RCk.out.len
      have bch := Lib.hid RCk.out.byte
      have SZ := Lib.hid (size20 lch)
      have OC := Lib.hid (one_cells ch)
      have ZC := Lib.hid (show Z20.size = (Arr .u8 ch).size by rw [Arr_size, lch]; rfl)
      have LC := Lib.hid lch
      have hn := Lib.hid (show hs.length ≤ 200 by have := P0.out.1; omega)
      clear hlo hhi RC hch f3 lch
      go_wp2_with (first
        | (go_at_call 119; (with_reducible refine (newHash _ _ _ ch RCk.out).mono ?_); rintro e w4 ⟨rfl, hb4⟩; have A4 := Lib.hid ((A3.out.below hb4).below ((Below.refl _ _).alloc (Nat.le_refl _) (.cells (Arr .u8 ch) 85))); clear hb4)
        | (with_reducible refine store_new (A := Z20) (t := 85) rfl 85 (.tmp 8) (.tmp 34) rfl (Arr .u8 ch) rfl rfl SZ.out ZC.out OC.out ?_)
        | (with_reducible refine wpList_load_row rfl 85 (.tmp 8) rfl _ rfl 85 _ (0, 0) _ (heap_alloc_new _ _) Tryz.underlying85 rfl SZ.out ?_)
        | (go_at_call 47; (with_reducible refine (pick A4.out LC.out bch.out hn.out).mono ?_); rintro e w5 ⟨av5, f5, rfl, hf5, hA5⟩; have A5 := Lib.hid hA5; have P5 := Lib.hid (P0.out.more (hf5.trans HCH.out)); clear hA5 hf5))
      refine ⟨⟨k + 1, av5, _, by omega, by simp, P5, A5⟩, by simp [intOf]; omega⟩
    · obtain rfl : k = mm := by omega
      have H3 := Lib.hid (tbl_wr H2.out A3.out.wr NT.out HG.out)
      go_wp2_with (first
        | (go_at_call 120; (with_reducible refine (KV.out _ _ H3.out).mono ?_); rintro e w6 ⟨rfl, hw6⟩; have A6 := Lib.hid (A3.out.below (drew_below hw6)); have H6 := Lib.hid (tbl_of H3.out hw6); clear hw6)
        | (go_at_call 121; (with_reducible refine (KI.out _ _ H6.out).mono ?_); rintro e w7 ⟨rfl, hw7⟩; have A9 := Lib.hid (A6.out.below (drew_below hw7)); clear hw7))
      go_loopw [12] (fun iv wr => iv = .int .i64 0 ∧ wr = w7) (fun iv _ => 0)
      case atStart => exact ⟨rfl, rfl⟩
      case round =>
        obtain ⟨rfl, rfl⟩ := hrel
        go_wp2_with (go_at_call 123; (with_reducible refine (noAssert _).mono ?_); rintro e w8 ⟨rfl, rfl⟩)
        go_ret
        exact ⟨rfl, av, hs, P0.out, A2.out.shift A9.out⟩


set_option maxRecDepth 100000 in
set_option maxHeartbeats 2000000 in
theorem walkLeaf {w : World} {g o L cc n cv : Nat} {T ys : List Nat} {F : Value} (h : Mess w g o L cc n T fidMap) (F7 : fld T 7 = 0) (F6 : fld T 6 = 0) (V : Vec T 3 cv ys) (hl : ys.length = cv) (hc : cv ≤ 100000) :
    Calls Tryz.prog 89 #[.slice (some ⟨g, o, none⟩) L cc, F] w fun e w' => e = .returned Value.nilIface ∧ Below w.heap.size w w' := by
  have hcct := h.rb.top
  have hLc := h.rb.le
  unfold maxLen at hcct
  have KR := Lib.hid (rootP h.rb h.top h.pos4)
  have KA := Lib.hid fun (w1 : World) (t : Nat) (h1 : Tbl w1 t g o L cc T) => pAA0 h1 h.m F7
  have KV := Lib.hid fun (w1 : World) (t : Nat) (h1 : Tbl w1 t g o L cc T) => pVAL0 h1 h.m F6
  have KI := Lib.hid fun (w1 : World) (t : Nat) (h1 : Tbl w1 t g o L cc T) => pVI h1 h.m V hl hc
  clear h F7 F6 V hl hc
  go_enter Tryz.func89, Tryz.ntmps89
  go_wp2_with (first
    | (go_at_call 117; (with_reducible refine KR.out.mono ?_); rintro e w1 ⟨t, rfl, ht, h1, hb1⟩; have B1 := Lib.hid hb1; have H1 := Lib.hid h1; clear h1 hb1 ht)
    | (go_at_call 118; (with_reducible refine (KA.out _ _ H1.out).mono ?_); rintro e w2 ⟨rfl, hw2⟩; have B2 := Lib.hid (bw B1.out (drew_below hw2)); have H2 := Lib.hid (tbl_of H1.out hw2); clear hw2))
  go_loopw [7] (fun iv wr => iv = .int .i64 0 ∧ wr = w2) (fun iv _ => 0)
  case atStart => exact ⟨rfl, rfl⟩
  case round =>
    obtain ⟨rfl, rfl⟩ := hrel
    go_wp2_with (first
        | (go_at_call 120; (with_reducible refine (KV.out _ _ H2.out).mono ?_); rintro e w6 ⟨rfl, hw6⟩; have B6 := Lib.hid (bw B2.out (drew_below hw6)); have H6 := Lib.hid (tbl_of H2.out hw6); clear hw6)
        | (go_at_call 121; (with_reducible refine (KI.out _ _ H6.out).mono ?_); rintro e w7 ⟨rfl, hw7⟩; have B9 := Lib.hid (bw B6.out (drew_below hw7)); clear hw7))
    go_loopw [12] (fun iv wr => iv = .int .i64 0 ∧ wr = w7) (fun iv _ => 0)
    case atStart => exact ⟨rfl, rfl⟩
    case round =>
      obtain ⟨rfl, rfl⟩ := hrel
      go_wp2_with (go_at_call 123; (with_reducible refine (noAssert _).mono ?_); rintro e w8 ⟨rfl, rfl⟩)
      go_ret
      exact ⟨rfl, B9.out⟩
end Go.Proofs.YtegohkgmamnkdaaGreat.Msg
