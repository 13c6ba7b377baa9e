/- For any bytes: the program's hash of them is the first twenty bytes of their SHA-512, its text has its digits, and the text is read as the hash (laws.FnVaHash returns true and leaves its argument alone). Condition: SHA-512's round numbers lie as the program's text lays them, which the card ties. -/
import Derived.Test.YtcbpnbfkjdmfgaaDoorLawHash2
import Derived.Test.YtcbpnbfkjdmfgaaDoorTie
import Derived.Test.YtcbpnbfkjdmfgaaDoorCards
import Derived.LaidMore
import Derived.Stop.Joined
import Derived.SevenTiedAt
set_option linter.unusedVariables false
namespace Go.Proofs.YtcbpnbfkjdmfgaaDoor.hashLaw
open Go.ChangeShapes Go.WideShapes Go.ChangeAt Go.RowKit
open Go.Proofs.YtcbpnbfkjdmfgaaDoor.Mem Go.Proofs.YtcbpnbfkjdmfgaaDoor.Rb Go.Proofs.YtcbpnbfkjdmfgaaDoor.LawHash
open Go.Proofs.YtcbpnbfkjdmfgaaDoor.Sha (KK KG)

theorem own : ownKnob Tryd.prog.godebug = none := by kernel_rfl
theorem laidOut : laidOutB Tryd.prog = true := by kernel_rfl
theorem cells_u8 : Tryd.prog.cellsOf 5 = 1 := by kernel_rfl
theorem cells_u64 : Tryd.prog.cellsOf 49 = 1 := by kernel_rfl
theorem cells_80 : Tryd.prog.cellsOf 52 = 80 := by kernel_rfl
def laidK : List (String × DataW Unit) := [("pub-inosculation/pub/sha512._K", Rows.laid_pub_inosculation_pub_sha512_K)]
theorem gK : Tryd.prog.globalNamed "pub-inosculation/pub/sha512._K" = some 0 := by kernel_rfl
theorem tK : (Tryd.prog.globals[0]?).map (·.type) = some 52 := by kernel_rfl
theorem door_met (os : Os) (args : Array Value) : laidMetH Tryd.prog laidK ((World.doorLaid Tryd.prog 2000 os).forCall (fun _ _ => 0) ⟨#[], args, []⟩).memory :=
  laidMetH_of_parts3 (fuel := 8) (laidMet_of_run' 8 (by kernel_rfl) (by kernel_rfl)) (by kernel_rfl) (by kernel_rfl)

/-- What the row lists, as the walk wants it. -/
theorem of_laid {W : World} (h : laidMetH Tryd.prog laidK W) : KG W := by
  rw [MakeChecks.laidMetH_plain _ _ _ (by kernel_rfl)] at h
  obtain ⟨ps, ⟨g0, t0, cs0, f0, p0, q0, hg0, ht0, hv0, hd0, _, _⟩, _, _⟩ := h
  obtain rfl := Option.some.inj (gK.symm.trans hg0)
  obtain rfl := Option.some.inj (tK.symm.trans ht0)
  obtain ⟨xs, m1, rfl, hx1, hlen, hn3, hel⟩ := DataW.trod_array Tryd.underlying52 hd0
  have hcell : ∀ i, i < 80 → W.cell? ⟨0, i, none⟩ = some (.int .u64 (KK.getD i 0)) := fun i hi => by
    have h0 := hel i hi
    rw [cells_u64, Nat.mul_one] at h0
    have hxi : xs[i]? = some (xs[i]'(by omega)) := List.getElem?_eq_getElem (by omega)
    rw [hxi] at h0
    obtain ⟨k, e1, e2, _⟩ := DataW.trod_int Tryd.underlying49 h0
    have h1 : (DataW.agg (KK.map fun k => (DataW.lit (.int .u64 k) : DataW Unit))) = .agg (xs.map (·.1)) := (Prod.mk.inj hx1).1
    have h2 := congrArg (fun l : List (DataW Unit) => l[i]?) (DataW.agg.inj h1)
    simp only [List.getElem?_map, hxi, Option.map_some, e2] at h2
    have hk : KK[i]? = some k := by
      cases hq : KK[i]? with
      | none => rw [hq] at h2; cases h2
      | some q =>
        rw [hq] at h2
        simp only [Option.map_some, Option.some.injEq, DataW.lit.injEq, Lit.int.injEq, true_and] at h2
        rw [h2]
    have hc := World.var?_cell hg0 hv0 i
    have h3 : cs0[i]? = some (.int .u64 k) := by
      have h4 : cs0.toList[i]? = some (.int .u64 k) := by
        have h5 := congrArg (fun l : List Value => l[0]?) e1
        simpa [List.getElem?_take, List.getElem?_drop] using h5
      simpa using h4
    rw [hc, h3, List.getD_eq_getElem?_getD, hk]
    rfl
  exact ⟨by
    have h0 := hcell 0 (by omega)
    exact World.block_lt_of_cell? W ⟨0, 0, none⟩ h0, hcell⟩

section
variable {H : Type} {enc : TypeId × Value → H} {P : Program} {w : World} {base b0 : Nat} {spare : Nat → Bool} {held : Bool} {t e : TypeId} {v : Value} {d : DataW H} {p : List MemPlace}
theorem open_row2 {k : IntKind} (ht : P.underlying t = some (.slice e)) (he : P.underlying e = some (.int k)) (hc : P.cellsOf e = 1)
    (ho : Value.okWide P w .any b0 t v) (h : DataW.Trod enc P w base spare held t v d p) : ∃ a n c xs, v = .slice a n c ∧ IsRow k w a n c xs ∧ (a = none → c = 0) := by
  obtain ⟨a, n, c, rfl⟩ := okWide_slice ht ho
  obtain ⟨fuel, hf⟩ := h
  rcases open_ints ht he hc hf with ⟨hcs, _⟩ | ⟨x, l, c', zs, hcs, _, hl, hm, hz, _, hcell, hwz⟩
  · simp [Value.cells] at hcs
    obtain ⟨rfl, rfl, rfl⟩ := hcs
    exact ⟨none, 0, 0, [], rfl, ⟨rfl, Nat.le_refl _, Nat.zero_le _, by simp, fun h => absurd h (by omega)⟩, fun _ => rfl⟩
  · simp [Value.cells] at hcs
    obtain ⟨rfl, rfl, rfl⟩ := hcs
    have hzl : n ≤ zs.length := by split at hz <;> omega
    refine ⟨_, _, _, zs.take n, rfl, ⟨by rw [List.length_take]; omega, hl, hm, fun y hy => hwz y (List.mem_of_mem_take hy), fun hn => ?_⟩, fun h => by cases h⟩
    obtain ⟨b, o, spot⟩ := x
    have h0 := hcell 0 (by omega)
    have hspot : spot = none := by simpa [Addr.add] using World.cell?_spot h0
    subst hspot
    refine ⟨b, o, rfl, lt_of_cell h0, fun i hi => ?_⟩
    have hi' := hcell i (by omega)
    rw [List.getD_eq_getElem?_getD, List.getElem?_take_of_lt hi, ← List.getD_eq_getElem?_getD, ← hi']
    unfold Addr.add
    by_cases h00 : i = 0
    · subst h00; simp
    · simp [h00]
end

set_option maxRecDepth 100000 in
theorem lifted (os : Os) (started : os.Started) (H : Type) (enc : TypeId × Value → H) :
    ReturnsInHanded {} Tryd.checked os 3 .any (fun w args => (Rows.fnVaHashSpec.pre enc Tryd.prog Tryd.f3 [] false w args ∧ laidMetH Tryd.prog laidK w) ∧ sizedMet enc Tryd.prog Tryd.f3 (OpenSpec.ofChange Rows.fnVaHashSpec) false w args)
      (Rows.fnVaHashSpec.post enc Tryd.prog Tryd.f3 false true false false) := by
  refine returnsInHanded_of_change_and (C := Tryd.checked) (X := fun w _ => laidMetH Tryd.prog laidK w) (fun _ _ _ hh h => h.of_heap hh) own started (by kernel_rfl) Tryd.func3
    (ChangeSpec.witness_shaped (enc := enc) (C := Tryd.checked) (os := os) (X := fun w _ => laidMetH Tryd.prog laidK w) false (World.doorLaid Tryd.prog 2000 os) #[.slice none 0 0] 8 rfl (World.shaped_of_RefB (by kernel_rfl) (by kernel_rfl)) (by kernel_rfl) (by kernel_rfl) (by kernel_rfl) (door_met os _)) ?_
  intro W base args ds gs before hval0 hW _ _ hL _
  have hval : ∀ (j : Nat) t v, Tryd.f3.params[j]? = some t → args[j]? = some v → Value.okWide Tryd.prog W .any base t v := hval0
  have hW' := hW
  obtain ⟨p, q, hA0, hV, rfl, hfz, hnd⟩ := hW
  have hA : DataW.TrodAll enc Tryd.prog W 0 (fun _ => true) true Tryd.f3.params.toList args.toList ds p := hA0
  rw [Tryd.params3] at hA hval
  obtain ⟨v0, d0, rfl, rfl, h0⟩ := trodAll_one hA
  obtain ⟨rfl, rfl⟩ := trodVars_none hV
  have lt0 : ∀ x ∈ p, x.block < W.heap.size := by obtain ⟨m, hm⟩ := h0; exact DataW.trod_lt m _ _ _ hm
  obtain ⟨a0, n0, c0, x0, e0, w0, z0⟩ := open_row2 Tryd.underlying22 Tryd.underlying5 cells_u8 (hval 0 22 v0 rfl rfl) h0
  have hK := of_laid hL
  clear hA0 hval0 hval
  have hw := LawHash.walk W a0 n0 c0 _ (RB.of_row w0) z0 hK
  rw [← e0] at hw
  refine hw.mono fun e W' ⟨he, bel⟩ => ?_
  subst he
  exact ⟨_, rfl, _, _, _, [], _, [], hW', trodAll_mk1 (shut_bool Tryd.underlying4 _), (trodAll_cons_mk (Below.trod laidOut (by kernel_rfl) (of_decide_eq_true (by kernel_rfl)) h0 bel lt0) trodAll_mk0), rfl, bel.frame _, fun h => by cases h⟩

theorem over : Rows.FnVaHashSaid :=
  OpenClaim.holds_of_wide 3 Tryd.f3 rfl rfl rfl rfl rfl rfl rfl ⟨rfl, rfl, rfl, rfl, rfl⟩ rfl rfl rfl rfl rfl (by kernel_rfl) Tryd.func3 (by kernel_rfl)
    (of_decide_eq_true (by kernel_rfl)) (by unfold Func.isWrapper; first | (rw [if_pos (by decide +kernel)]; kernel_rfl) | (rw [if_neg (by decide +kernel)]; exact ⟨rfl, rfl⟩))
    (fun os started H enc _ => lifted os started H enc)

/-- The statement: the tied card. -/
theorem proved : Rows.FnVaHashCardSaid :=
  Claim7.holds_tied_plain_at .later [] [.data] true (true, "4f3ad31663a9ec1c69195f669f058e00f42a319f0bca71da01f2ca96e2b56cbf") false
    over (fun _ h => by cases h) (by kernel_rfl) (fun _ h => by cases h) fnVaHash_row_tie rfl ⟨rfl, rfl⟩ (by kernel_rfl) rfl
    (fun f fn hf hfn => by
      obtain rfl : f = 3 := Option.some.inj ((show Tryd.prog.funcNamed "pub-inosculation/laws.FnVaHash" = some 3 by kernel_rfl).symm.trans hf) |>.symm
      obtain rfl : fn = Tryd.f3 := (Option.some.inj (Tryd.func3.symm.trans hfn)).symm
      exact ⟨by kernel_rfl, fun j t ht => by
        rw [Tryd.params3] at ht
        have hm : t ∈ [22] := by simpa using Array.mem_of_getElem? ht
        have hall : ([22].all fun u => !Tryd.prog.wantsStandIn u) = true := by kernel_rfl
        exact (show Tryd.prog.wantsStandIn t = false by simpa using List.all_eq_true.1 hall t hm)⟩)
    (by kernel_rfl)
#print axioms proved
end Go.Proofs.YtcbpnbfkjdmfgaaDoor.hashLaw
