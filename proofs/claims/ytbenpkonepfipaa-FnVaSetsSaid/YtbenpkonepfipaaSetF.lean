/- Acts that came in, opened. No condition. -/
import Derived.Test.YtbenpkonepfipaaSetE
import Derived.Deep.Slices
set_option linter.unusedVariables false
namespace Go.Proofs.Ytbenpkonepfipaa.Acts
open Go.ChangeShapes Go.WideShapes Go.ChangeAt Go.RowKit
open Go.Proofs.Ytbenpkonepfipaa.Mem Go.Proofs.Ytbenpkonepfipaa.Rb

section
variable {H : Type} {enc : TypeId × Value → H} {w : World} {base : Nat} {held : Bool}

instance : Inhabited ActV := ⟨noAct⟩
theorem spot_none {x : Addr} {v : Value} (h0 : w.cell? (x.add 0) = some v) : x = ⟨x.block, x.off, none⟩ := by
  obtain ⟨b, o, s⟩ := x
  have : s = none := by simpa [Addr.add] using World.cell?_spot h0
  subst this
  rfl
theorem add_off (b o i : Nat) : (⟨b, o, none⟩ : Addr).add i = ⟨b, o + i, none⟩ := by
  unfold Addr.add
  by_cases h00 : i = 0
  · subst h00; simp
  · simp [h00]
theorem cellsB : Try.prog.cellsOf 5 = 1 := by kernel_rfl
theorem cells27 : Try.prog.cellsOf 27 = 1 := by kernel_rfl
theorem cells4 : Try.prog.cellsOf 4 = 1 := by kernel_rfl
theorem cells3 : Try.prog.cellsOf 3 = 1 := by kernel_rfl
theorem cells55 : Try.prog.cellsOf 55 = 1 := by kernel_rfl
theorem cells57 : Try.prog.cellsOf 57 = 2 := by kernel_rfl
theorem cells59 : Try.prog.cellsOf 59 = 7 := by kernel_rfl
theorem cells111 : Try.prog.cellsOf 111 = 3 := by kernel_rfl

theorem open_bytes {fuel : Nat} {cs : List Value} {x : DataW H × List MemPlace} (h : DataW.trod enc Try.prog w base (fun _ => true) held fuel 27 cs = some x) :
    ∃ a n c xs, cs = [.slice a n c] ∧ RB w a n c xs ∧ (a = none → c = 0) := by
  rcases open_ints Try.underlying27 Try.underlying5 cellsB h with ⟨hcs, _⟩ | ⟨ad, len, cap, zs, hcs, _, hl, hm, hz, _, hcell, hwz⟩
  · exact ⟨none, 0, 0, [], hcs, RB.nil w, fun _ => rfl⟩
  · simp only [if_true] at hz
    refine ⟨some ad, len, cap, ((zs.take len).map Int.toNat), hcs, ?_, by intro h; cases h⟩
    refine RB.of_row ⟨by rw [List.length_take]; omega, hl, hm, fun y hy => hwz y (List.mem_of_mem_take hy), fun hn => ?_⟩
    have h0 := hcell 0 (by omega)
    have hx := spot_none h0
    refine ⟨ad.block, ad.off, congrArg some hx, World.block_lt_of_cell? w ⟨ad.block, ad.off, none⟩ (by rw [← hx]; simpa [Addr.add] using h0), fun i hi => ?_⟩
    have := hcell i (by omega)
    rw [hx, add_off] at this
    rw [this, List.getD_eq_getElem?_getD, List.getD_eq_getElem?_getD, List.getElem?_take_of_lt hi]

set_option maxRecDepth 100000 in
theorem open_cuts {fuel : Nat} {cs : List Value} {x : DataW H × List MemPlace} (h : DataW.trod enc Try.prog w base (fun _ => true) held fuel 55 cs = some x) :
    ∃ a n c, cs = [.slice a n c] ∧ Cuts w a n c := by
  rcases Deep.open_slice Try.underlying55 h with ⟨hcs, _⟩ | ⟨ad, len, cap, m, k, D, Pl, hcs, _, hl, hm, hmm, _, hall⟩
  · exact ⟨none, 0, 0, hcs, Nat.le_refl _, Nat.zero_le _, fun h => absurd h (by omega)⟩
  · simp only [if_true] at hmm
    subst hmm
    rw [cells111] at hall
    have each : ∀ i, i < len → ∃ (ca : Option Addr) (cn cc : Nat) (p q : Bool), cn ≤ maxLen ∧ w.cell? (ad.add (i * 3)) = some (.slice ca cn cc) ∧ w.cell? ((ad.add (i * 3)).add 1) = some (.bool p) ∧ w.cell? ((ad.add (i * 3)).add 2) = some (.bool q) := fun i hi => by
      obtain ⟨cs', hc, ht⟩ := hall i (by omega)
      obtain ⟨_, hlen, hcell⟩ := World.cells?_some hc
      obtain ⟨xs, nn, _, _, _, hxl, hf⟩ := DataW.trod_struct Try.underlying111 ht
      match cs', hlen with
      | [v0, v1, v2], _ =>
        have f0 : DataW.trod enc Try.prog w base (fun _ => true) held nn 27 (List.take (Try.prog.cellsOf 27) (List.drop 0 [v0, v1, v2])) = xs[0]? := hf 0 _ rfl
        have f1 : DataW.trod enc Try.prog w base (fun _ => true) held nn 4 (List.take (Try.prog.cellsOf 4) (List.drop 1 [v0, v1, v2])) = xs[1]? := hf 1 _ rfl
        have f2 : DataW.trod enc Try.prog w base (fun _ => true) held nn 4 (List.take (Try.prog.cellsOf 4) (List.drop 2 [v0, v1, v2])) = xs[2]? := hf 2 _ rfl
        have g0 := hcell 0 (by omega)
        have g1 := hcell 1 (by omega)
        have g2 := hcell 2 (by omega)
        rw [List.getElem?_eq_getElem (by rw [hxl]; decide)] at f0 f1 f2
        rw [cells27] at f0
        rw [cells4] at f1 f2
        obtain ⟨ca, cn, cc, ys, e0, hr, _⟩ := open_bytes f0
        obtain ⟨p, e1, _⟩ := DataW.trod_bool Try.underlying4 f1
        obtain ⟨q, e2, _⟩ := DataW.trod_bool Try.underlying4 f2
        simp at e0 e1 e2
        subst e0 e1 e2
        refine ⟨ca, cn, cc, p, q, Nat.le_trans hr.le hr.top, ?_, by simpa using g1, by simpa using g2⟩
        simpa [Addr.add] using g0
    refine ⟨some ad, len, _, hcs, hl, hm, fun hn => ?_⟩
    obtain ⟨_, _, _, _, _, _, h0, _⟩ := each 0 hn
    rw [Nat.zero_mul] at h0
    have hx := spot_none h0
    refine ⟨ad.block, ad.off, congrArg some hx, World.block_lt_of_cell? w ⟨ad.block, ad.off, none⟩ (by rw [← hx]; simpa [Addr.add] using h0), fun i hi => ?_⟩
    obtain ⟨ca, cn, cc, p, q, h1, h2, h3, h4⟩ := each i hi
    rw [hx, add_off] at h2 h3 h4
    rw [add_off] at h3 h4
    exact ⟨ca, cn, cc, p, q, h1, h2, h3, h4⟩

set_option maxRecDepth 100000 in
theorem open_act {fuel : Nat} {cs : List Value} {x : DataW H × List MemPlace} (hlen : cs.length = 7) (h : DataW.trod enc Try.prog w base (fun _ => true) held fuel 59 cs = some x) :
    ∃ y : ActV, cs = [.int .i64 y.k, .int .i64 y.p, .int .i64 y.q, .slice y.ka y.kn y.kc, .slice y.va y.vn y.vc, .slice y.sa y.sn y.sc, .slice y.ta y.tn y.tc] ∧ ActOk w y := by
  obtain ⟨xs, nn, _, _, _, hxl, hf⟩ := DataW.trod_struct Try.underlying59 h
  match cs, hlen with
  | [v0, v1, v2, v3, v4, v5, v6], _ =>
    have f0 : DataW.trod enc Try.prog w base (fun _ => true) held nn 3 (List.take (Try.prog.cellsOf 3) (List.drop 0 [v0, v1, v2, v3, v4, v5, v6])) = xs[0]? := hf 0 _ rfl
    have f1 : DataW.trod enc Try.prog w base (fun _ => true) held nn 3 (List.take (Try.prog.cellsOf 3) (List.drop 1 [v0, v1, v2, v3, v4, v5, v6])) = xs[1]? := hf 1 _ rfl
    have f2 : DataW.trod enc Try.prog w base (fun _ => true) held nn 3 (List.take (Try.prog.cellsOf 3) (List.drop 2 [v0, v1, v2, v3, v4, v5, v6])) = xs[2]? := hf 2 _ rfl
    have f3 : DataW.trod enc Try.prog w base (fun _ => true) held nn 27 (List.take (Try.prog.cellsOf 27) (List.drop 3 [v0, v1, v2, v3, v4, v5, v6])) = xs[3]? := hf 3 _ rfl
    have f4 : DataW.trod enc Try.prog w base (fun _ => true) held nn 27 (List.take (Try.prog.cellsOf 27) (List.drop 4 [v0, v1, v2, v3, v4, v5, v6])) = xs[4]? := hf 4 _ rfl
    have f5 : DataW.trod enc Try.prog w base (fun _ => true) held nn 57 (List.take (Try.prog.cellsOf 57) (List.drop 5 [v0, v1, v2, v3, v4, v5, v6])) = xs[5]? := hf 5 _ rfl
    rw [List.getElem?_eq_getElem (by rw [hxl]; decide)] at f0 f1 f2 f3 f4 f5
    rw [cells3] at f0 f1 f2
    rw [cells27] at f3 f4
    rw [cells57] at f5
    obtain ⟨k, e0, _⟩ := DataW.trod_int Try.underlying3 f0
    obtain ⟨p, e1, _⟩ := DataW.trod_int Try.underlying3 f1
    obtain ⟨q, e2, _⟩ := DataW.trod_int Try.underlying3 f2
    obtain ⟨ka, kn, kc, ks, e3, hk, hkn⟩ := open_bytes f3
    obtain ⟨va, vn, vc, vs, e4, hv, hvn⟩ := open_bytes f4
    obtain ⟨zs, mm, _, _, _, hzl, hg⟩ := DataW.trod_struct Try.underlying57 f5
    have g0 : DataW.trod enc Try.prog w base (fun _ => true) held mm 55 (List.take (Try.prog.cellsOf 55) (List.drop 0 (List.take 2 (List.drop 5 [v0, v1, v2, v3, v4, v5, v6])))) = zs[0]? := hg 0 _ rfl
    have g1 : DataW.trod enc Try.prog w base (fun _ => true) held mm 55 (List.take (Try.prog.cellsOf 55) (List.drop 1 (List.take 2 (List.drop 5 [v0, v1, v2, v3, v4, v5, v6])))) = zs[1]? := hg 1 _ rfl
    rw [List.getElem?_eq_getElem (by rw [hzl]; decide)] at g0 g1
    rw [cells55] at g0 g1
    obtain ⟨sa, sn, sc, e5, hs⟩ := open_cuts g0
    obtain ⟨ta, tn, tc, e6, ht⟩ := open_cuts g1
    simp at e0 e1 e2 e3 e4 e5 e6
    subst e0 e1 e2 e3 e4 e5 e6
    exact ⟨⟨k, p, q, ka, kn, kc, ks, va, vn, vc, vs, sa, sn, sc, ta, tn, tc⟩, rfl, hk, hkn, hv, hvn, hs, ht⟩

set_option maxRecDepth 100000 in
theorem open_acts {b0 : Nat} {v : Value} {d : DataW H} {p : List MemPlace} (ho : Value.okWide Try.prog w .any b0 49 v) (h : DataW.Trod enc Try.prog w base (fun _ => true) held 49 v d p) : ∃ a n c xs, v = .slice a n c ∧ Acts w a n c xs := by
  obtain ⟨a, n, c, rfl⟩ := okWide_slice Try.underlying49 ho
  obtain ⟨fuel, hf⟩ := h
  rcases Deep.open_slice Try.underlying49 hf with ⟨hcs, _⟩ | ⟨ad, len, cap, m, k, D, Pl, hcs, _, hl, hm, hmm, _, hall⟩
  · simp [Value.cells] at hcs
    obtain ⟨rfl, rfl, rfl⟩ := hcs
    exact ⟨none, 0, 0, [], rfl, rfl, Nat.le_refl _, Nat.zero_le _, by simp, fun h => absurd h (by omega)⟩
  · simp [Value.cells] at hcs
    obtain ⟨rfl, rfl, rfl⟩ := hcs
    simp only [if_true] at hmm
    subst hmm
    rw [cells59] at hall
    have each : ∀ i, i < n → ∃ y : ActV, ActOk w y ∧ ∀ j, j < 7 → w.cell? ((ad.add (i * 7)).add j) = ([.int .i64 y.k, .int .i64 y.p, .int .i64 y.q, .slice y.ka y.kn y.kc, .slice y.va y.vn y.vc, .slice y.sa y.sn y.sc, .slice y.ta y.tn y.tc] : List Value)[j]? := fun i hi => by
      obtain ⟨cs', hc, ht⟩ := hall i (by omega)
      obtain ⟨_, hlen, hcell⟩ := World.cells?_some hc
      obtain ⟨y, rfl, hy⟩ := open_act hlen ht
      exact ⟨y, hy, hcell⟩
    obtain ⟨Y, hY⟩ := Deep.choose_lt each
    refine ⟨_, _, _, (List.range n).map Y, rfl, by simp, hl, hm, fun x hx => ?_, fun hn => ?_⟩
    · obtain ⟨i, hi, rfl⟩ := List.mem_map.1 hx
      exact (hY i (List.mem_range.1 hi)).1
    · have h0 := (hY 0 hn).2 0 (by omega)
      rw [Nat.zero_mul] at h0
      have h0' : w.cell? (ad.add 0) = some (.int .i64 (Y 0).k) := by simpa [Addr.add] using h0
      have hx := spot_none h0'
      refine ⟨ad.block, ad.off, congrArg some hx, World.block_lt_of_cell? w ⟨ad.block, ad.off, none⟩ (by rw [← hx]; simpa [Addr.add] using h0'), fun i hi => ?_⟩
      have hc := (hY i hi).2
      have e : ((List.range n).map Y).getD i noAct = Y i := by simp [List.getD_eq_getElem?_getD, hi]
      rw [e]
      have at_ : ∀ j u, j < 7 → ([.int .i64 (Y i).k, .int .i64 (Y i).p, .int .i64 (Y i).q, .slice (Y i).ka (Y i).kn (Y i).kc, .slice (Y i).va (Y i).vn (Y i).vc, .slice (Y i).sa (Y i).sn (Y i).sc, .slice (Y i).ta (Y i).tn (Y i).tc] : List Value)[j]? = some u → w.cell? ⟨ad.block, ad.off + i * 7 + j, none⟩ = some u := fun j u hj hu => by
        have := hc j hj
        rw [hx, add_off, add_off] at this
        exact this.trans hu
      exact ⟨at_ 0 _ (by omega) rfl, at_ 1 _ (by omega) rfl, at_ 2 _ (by omega) rfl, at_ 3 _ (by omega) rfl, at_ 4 _ (by omega) rfl, at_ 5 _ (by omega) rfl, at_ 6 _ (by omega) rfl⟩
end
end Go.Proofs.Ytbenpkonepfipaa.Acts
