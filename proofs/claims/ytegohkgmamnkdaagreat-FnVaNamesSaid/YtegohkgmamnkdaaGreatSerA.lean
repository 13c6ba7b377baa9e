/- The generated writers of a node's fields, walked: each calls the builder's own. No condition. -/
import Derived.Test.YtegohkgmamnkdaaGreatNew
set_option linter.unusedVariables false
namespace Go.Proofs.YtegohkgmamnkdaaGreat.Msg
open Go.ChangeShapes Go.WideShapes Go.ChangeAt Go.RowKit
open Go.Proofs.YtegohkgmamnkdaaGreat.Dig Go.Proofs.YtegohkgmamnkdaaGreat.Mem Go.Proofs.YtegohkgmamnkdaaGreat.Rb

theorem aAddKeyItems (w : World) (B : Nat) (v : Int) (Q : World → Prop) (h : Calls Tryz.prog 75 #[.pointer (some ⟨B, 0, none⟩), .int .i64 0, .int .u32 v, .int .u32 0] w fun e w' => e = .returned (.tuple #[]) ∧ Q w') :
    Calls Tryz.prog 26 #[.pointer (some ⟨B, 0, none⟩), .int .u32 v] w fun e w' => e = .returned (.tuple #[]) ∧ Q w' := by
  have K := Lib.hid h
  clear h
  go_enter Tryz.func26, Tryz.ntmps26
  go_wp2_with (go_at_call 75; (with_reducible refine K.out.mono ?_); rintro e w1 ⟨rfl, h1⟩; have H1 := Lib.hid h1; clear h1)
  go_end0
  exact ⟨rfl, H1.out⟩

theorem aAddKeyOffsets (w : World) (B : Nat) (v : Int) (Q : World → Prop) (h : Calls Tryz.prog 75 #[.pointer (some ⟨B, 0, none⟩), .int .i64 1, .int .u32 v, .int .u32 0] w fun e w' => e = .returned (.tuple #[]) ∧ Q w') :
    Calls Tryz.prog 27 #[.pointer (some ⟨B, 0, none⟩), .int .u32 v] w fun e w' => e = .returned (.tuple #[]) ∧ Q w' := by
  have K := Lib.hid h
  clear h
  go_enter Tryz.func27, Tryz.ntmps27
  go_wp2_with (go_at_call 75; (with_reducible refine K.out.mono ?_); rintro e w1 ⟨rfl, h1⟩; have H1 := Lib.hid h1; clear h1)
  go_end0
  exact ⟨rfl, H1.out⟩

theorem aAddAddressArray (w : World) (B : Nat) (v : Int) (Q : World → Prop) (h : Calls Tryz.prog 75 #[.pointer (some ⟨B, 0, none⟩), .int .i64 2, .int .u32 v, .int .u32 0] w fun e w' => e = .returned (.tuple #[]) ∧ Q w') :
    Calls Tryz.prog 28 #[.pointer (some ⟨B, 0, none⟩), .int .u32 v] w fun e w' => e = .returned (.tuple #[]) ∧ Q w' := by
  have K := Lib.hid h
  clear h
  go_enter Tryz.func28, Tryz.ntmps28
  go_wp2_with (go_at_call 75; (with_reducible refine K.out.mono ?_); rintro e w1 ⟨rfl, h1⟩; have H1 := Lib.hid h1; clear h1)
  go_end0
  exact ⟨rfl, H1.out⟩

theorem aAddSubtreeCounts (w : World) (B : Nat) (v : Int) (Q : World → Prop) (h : Calls Tryz.prog 75 #[.pointer (some ⟨B, 0, none⟩), .int .i64 3, .int .u32 v, .int .u32 0] w fun e w' => e = .returned (.tuple #[]) ∧ Q w') :
    Calls Tryz.prog 29 #[.pointer (some ⟨B, 0, none⟩), .int .u32 v] w fun e w' => e = .returned (.tuple #[]) ∧ Q w' := by
  have K := Lib.hid h
  clear h
  go_enter Tryz.func29, Tryz.ntmps29
  go_wp2_with (go_at_call 75; (with_reducible refine K.out.mono ?_); rintro e w1 ⟨rfl, h1⟩; have H1 := Lib.hid h1; clear h1)
  go_end0
  exact ⟨rfl, H1.out⟩

theorem aAddTreeCount (w : World) (B : Nat) (v : Int) (Q : World → Prop) (h : Calls Tryz.prog 76 #[.pointer (some ⟨B, 0, none⟩), .int .i64 4, .int .u64 v, .int .u64 0] w fun e w' => e = .returned (.tuple #[]) ∧ Q w') :
    Calls Tryz.prog 30 #[.pointer (some ⟨B, 0, none⟩), .int .u64 v] w fun e w' => e = .returned (.tuple #[]) ∧ Q w' := by
  have K := Lib.hid h
  clear h
  go_enter Tryz.func30, Tryz.ntmps30
  go_wp2_with (go_at_call 76; (with_reducible refine K.out.mono ?_); rintro e w1 ⟨rfl, h1⟩; have H1 := Lib.hid h1; clear h1)
  go_end0
  exact ⟨rfl, H1.out⟩

theorem aAddTreeLevel (w : World) (B : Nat) (v : Int) (Q : World → Prop) (h : Calls Tryz.prog 77 #[.pointer (some ⟨B, 0, none⟩), .int .i64 5, .int .u8 v, .int .u8 0] w fun e w' => e = .returned (.tuple #[]) ∧ Q w') :
    Calls Tryz.prog 32 #[.pointer (some ⟨B, 0, none⟩), .int .u8 v] w fun e w' => e = .returned (.tuple #[]) ∧ Q w' := by
  have K := Lib.hid h
  clear h
  go_enter Tryz.func32, Tryz.ntmps32
  go_wp2_with (go_at_call 77; (with_reducible refine K.out.mono ?_); rintro e w1 ⟨rfl, h1⟩; have H1 := Lib.hid h1; clear h1)
  go_end0
  exact ⟨rfl, H1.out⟩

theorem aStart (w : World) (B : Nat)  (Q : World → Prop) (h : Calls Tryz.prog 74 #[.pointer (some ⟨B, 0, none⟩), .int .i64 6] w fun e w' => e = .returned (.tuple #[]) ∧ Q w') :
    Calls Tryz.prog 25 #[.pointer (some ⟨B, 0, none⟩)] w fun e w' => e = .returned (.tuple #[]) ∧ Q w' := by
  have K := Lib.hid h
  clear h
  go_enter Tryz.func25, Tryz.ntmps25
  go_wp2_with (go_at_call 74; (with_reducible refine K.out.mono ?_); rintro e w1 ⟨rfl, h1⟩; have H1 := Lib.hid h1; clear h1)
  go_end0
  exact ⟨rfl, H1.out⟩

theorem aStartKeyOffsets (w : World) (B : Nat) (v : Int) (Q : World → Prop) (h : Calls Tryz.prog 69 #[.pointer (some ⟨B, 0, none⟩), .int .i64 2, .int .i64 v, .int .i64 2] w fun e w' => (∃ v, e = .returned (.int .u32 v)) ∧ Q w') :
    Calls Tryz.prog 22 #[.pointer (some ⟨B, 0, none⟩), .int .i64 v] w fun e w' => (∃ v, e = .returned (.int .u32 v)) ∧ Q w' := by
  have K := Lib.hid h
  clear h
  go_enter Tryz.func22, Tryz.ntmps22
  go_wp2_with (go_at_call 69; (with_reducible refine K.out.mono ?_); rintro e w1 ⟨⟨v, rfl⟩, h1⟩; have H1 := Lib.hid h1; clear h1)
  go_ret
  exact ⟨⟨v, rfl⟩, H1.out⟩

theorem aEnd (w : World) (B : Nat) (v : Int) (Q : World → Prop) (h : Calls Tryz.prog 80 #[.pointer (some ⟨B, 0, none⟩)] w fun e w' => e = .returned (.int .u32 v) ∧ Q w') :
    Calls Tryz.prog 34 #[.pointer (some ⟨B, 0, none⟩)] w fun e w' => e = .returned (.int .u32 v) ∧ Q w' := by
  have K := Lib.hid h
  clear h
  go_enter Tryz.func34, Tryz.ntmps34
  go_wp2_with (go_at_call 80; (with_reducible refine K.out.mono ?_); rintro e w1 ⟨rfl, h1⟩; have H1 := Lib.hid h1; clear h1)
  go_ret
  exact ⟨rfl, H1.out⟩
end Go.Proofs.YtegohkgmamnkdaaGreat.Msg
