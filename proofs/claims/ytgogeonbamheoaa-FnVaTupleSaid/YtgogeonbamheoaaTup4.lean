/- The laws' comparison of two rows of fields, walked. Condition: they hold the same. -/
import Derived.Test.YtgogeonbamheoaaTup3
set_option linter.unusedVariables false
namespace Go.Proofs.Ytgogeonbamheoaa.Tup
open Go.ChangeShapes Go.WideShapes Go.ChangeAt Go.RowKit
open Go.Proofs.Ytgogeonbamheoaa.Dig Go.Proofs.Ytgogeonbamheoaa.Mem Go.Proofs.Ytgogeonbamheoaa.Rb Go.Proofs.Ytgogeonbamheoaa.Sl Go.Proofs.Ytgogeonbamheoaa.Tri

theorem same (w : World) (a b : Option Addr) (n c m d : Nat) (xs ys : List Nat) (hx : RB w a n c xs) (hy : RB w b m d ys) (he : xs = ys) :
    Calls Try.prog 7 #[.slice a n c, .slice b m d] w fun e w' => e = .returned (.bool true) ∧ w = w' := by
  subst he
  have := vaSame w a b n c m d xs xs hx hy
  simpa using this
theorem fld_at {w : World} {b o n : Nat} {fs : List Fld} {k : Nat} (hc : ∀ i, i < n → w.cell? ⟨b, o + i, none⟩ = some (fs.getD i nof).v) (hk : k < n) {f : Fld} (hf : f = fs.getD k nof) : w.cell? ⟨b, o + k, none⟩ = some (.slice f.a f.n f.c) := by
  rw [hc k hk, ← hf]; rfl

set_option maxRecDepth 100000 in
set_option maxHeartbeats 1000000 in
theorem vaAll (w : World) (a b : Option Addr) (n c d : Nat) (fs gs : List Fld) (h : Flds w a n c fs) (h' : Flds w b n d gs) (he : ∀ k, k < n → (fs.getD k nof).xs = (gs.getD k nof).xs) :
    Calls Try.prog 14 #[.slice a n c, .slice b n d] w fun e w' => e = .returned (.bool true) ∧ Below w.heap.size w w' := by
  have H := Lib.hid h
  have H' := Lib.hid h'
  have HE := Lib.hid he
  have hc := h.le
  have hct := h.top
  unfold maxLen at hct
  clear h h' he
  go_enter Try.func14, Try.ntmps14
  go_wp2_with fail
  go_loopw [13] (fun iv wr => ∃ k : Nat, k ≤ n ∧ iv = .int .i64 (k : Int) ∧ Below w.heap.size w wr) (fun iv _ => n - (intOf iv).toNat)
  case atStart => exact ⟨0, by omega, rfl, Below.refl _ _⟩
  case round =>
    obtain ⟨k, hk, rfl, hbel⟩ := hrel
    by_cases hlt : k < n
    · have HB := H.out.below hbel
      have HB' := H'.out.below hbel
      obtain ⟨b1, o1, ea, hb1, hc1⟩ := HB.at_ (by omega)
      obtain ⟨b2, o2, eb, hb2, hc2⟩ := HB'.at_ (by omega)
      subst ea
      subst eb
      obtain ⟨f, hf⟩ : ∃ f, f = fs.getD k nof := ⟨_, rfl⟩
      obtain ⟨g, hg⟩ : ∃ g, g = gs.getD k nof := ⟨_, rfl⟩
      have g1 := fld_at hc1 hlt hf
      have g2 := fld_at hc2 hlt hg
      have hfr := (HB.ok f (by rw [hf]; exact getD_mem (by rw [HB.len]; exact hlt))).1
      have hgr := (HB'.ok g (by rw [hg]; exact getD_mem (by rw [HB'.len]; exact hlt))).1
      have hxe : f.xs = g.xs := by rw [hf, hg]; exact HE.out k hlt
      have K7 := Lib.hid fun q => same (wr.drewN q) f.a g.a f.n f.c g.n g.c f.xs g.xs (hfr.below (bdn (Below.refl wr.heap.size wr) q) (Nat.le_refl _)) (hgr.below (bdn (Below.refl wr.heap.size wr) q) (Nat.le_refl _)) hxe
      have hki : (k : Int) < (n : Int) := by omega
      have BL := Lib.hid hbel
      clear hc1 hc2 hf hg hfr hgr hxe HB HB' hbel
      go_wp2_with fail
      go_quiet ((go_at_call 7; exact quiet_left (K7.out _)))
      go_wp2_with fail
      go_roundw
      case rel => exact ⟨k + 1, by omega, by go_num, bdn BL.out _⟩
      case measure => simp [intOf]; omega
    · obtain rfl : k = n := by omega
      have BL := Lib.hid hbel
      clear hbel
      go_wp2_with fail
      go_ret
      exact ⟨rfl, BL.out⟩
end Go.Proofs.Ytgogeonbamheoaa.Tup
