import Derived.Test.YbulkaxegFmtText
import Derived.Deep.RegionHeld3
import Derived.BigQuiet
import Derived.Deep.RegionWith
import Derived.Deep.QuietTactic
import Derived.WalkLawsBesides
namespace Go.Proofs.YbulkaxegFmt
open Go.RowKit Go.Extern.Stop Go.Stop Go.Extern
set_option linter.unusedVariables false

/-- The table of names, as the walk reads it. -/
def IsStrs (w : World) (ad : Option Addr) (len cap : Nat) : Prop :=
  len = 0 ∨ ∃ b off, ad = some ⟨b, off, none⟩ ∧ b < w.heap.size ∧ ∀ j, j < len → ∃ s : ByteArray, w.cell? ⟨b, off + j, none⟩ = some (.string s) ∧ s.size ≤ maxLen

theorem nil_eq (w : World) : (binOp .eql 23 (.slice none 0 0) (.slice none 0 0)).run Ybaf.prog w = .ok (.bool true) w := by kernel_rfl

theorem law_long (ad : Option Addr) (len cap : Nat) (kind : ByteArray) (i : Int) (w : World) (hl : 1024 < len) :
    Calls Ybaf.prog 3 #[.slice ad len cap, .string kind, .int .i64 i] w fun e w' => e = .returned (.bool true) ∧ Below w.heap.size w w' := by
  have hl' : (1024 : Int) < (len : Int) := by omega
  go_enter Ybaf.func3, Ybaf.ntmps3
  go_wp2
  go_ret
  exact ⟨rfl, Below.refl _ _⟩

theorem law_out (F : Interp) (ad : Option Addr) (len cap : Nat) (kind : ByteArray) (i : Int) (w : World) (hF : F.answers w.tape) (hl : len ≤ 1024) (hi : i < 0 ∨ (len : Int) ≤ i) :
    Calls Ybaf.prog 3 #[.slice ad len cap, .string kind, .int .i64 i] w fun e w' => e = .returned (.bool true) ∧ Below w.heap.size w w' := by
  have hl' : (len : Int) ≤ 1024 := by omega
  have hnil := nil_eq
  have HC : Hid _ := text_out F ad len cap kind i w hF hi
  by_cases hn : i < 0
  · go_enter Ybaf.func3, Ybaf.ntmps3
    go_wp2_with (go_at_call 4; refine Calls.mono (Hid.out HC) ?_; rintro e w' ⟨⟨p, rfl⟩, hb⟩)
    go_ret
    exact ⟨rfl, hb⟩
  · have hg : (len : Int) ≤ i := by omega
    go_enter Ybaf.func3, Ybaf.ntmps3
    go_wp2_with (go_at_call 4; refine Calls.mono (Hid.out HC) ?_; rintro e w' ⟨⟨p, rfl⟩, hb⟩)
    go_ret
    exact ⟨rfl, hb⟩

theorem law_in (b off len cap : Nat) (kind s : ByteArray) (i : Nat) (w : World) (hl : len ≤ 1024) (hi : i < len) (hc : w.cell? ⟨b, off + i, none⟩ = some (.string s)) (hb : b < w.heap.size) (hs : s.size ≤ maxLen) :
    Calls Ybaf.prog 3 #[.slice (some ⟨b, off, none⟩) len cap, .string kind, .int .i64 i] w fun e w' => e = .returned (.bool true) ∧ Below w.heap.size w w' := by
  have hl' : (len : Int) ≤ 1024 := by omega
  have hi' : (i : Int) < (len : Int) := by omega
  have HC : Hid _ := text_in b off len cap kind s i w hi hc
  have hc2 := (Lib.bytesWorld_old w 5 s ⟨b, off + i, none⟩ hb).trans hc
  have hcell := Lib.bytesWorld_cell w 5 s
  have HB : Hid _ := below_bytes w 5 s
  have hlt : w.heap.size < (Lib.bytesWorld w 5 s).heap.size := by rw [Lib.bytesWorld_size]; omega
  have hs' : s.size ≤ 9223372036854775807 := by unfold maxLen at hs; omega
  clear hc hs
  go_enter Ybaf.func3, Ybaf.ntmps3
  go_wp2_with (go_at_call 4; refine Calls.mono (Hid.out HC) ?_; rintro e w' ⟨⟨c, rfl⟩, rfl⟩)
  generalize Lib.bytesWorld w 5 s = W at *
  go_loopw [10] (fun k wr => ∃ n : Nat, n ≤ s.size ∧ k = .int .i64 n ∧ ∃ q, wr = W.drewN q) (fun k _ => s.size - (intOf k).toNat)
  case atStart => exact ⟨0, by omega, rfl, 0, rfl⟩
  case round =>
    obtain ⟨n, hn, rfl, q, rfl⟩ := hrel
    by_cases hns : n < s.size
    · have hns' : (n : Int) < (s.size : Int) := by omega
      have hcn := hcell n hns
      clear hcell
      go_wp2
      go_quiet (fail)
      go_wp2
      · rename_i h
        have e : ∀ (h1 : n < s.data.size) (h2 : n < s.size), s.data[n] = s[n] := fun _ _ => rfl
        rw [e hns hns] at h
        simp at h
      go_roundw
      case rel => exact ⟨n + 1, by omega, by go_num, _, rfl⟩
      case measure => simp [intOf]; omega
    · have hns' : n = s.size := by omega
      subst hns'
      have hd : decide ((s.size : Int) < (s.size : Int)) = false := by simp
      go_wp2
      go_ret
      exact ⟨rfl, ⟨HB.out.os, HB.out.tape, HB.out.output, HB.out.size, HB.out.block⟩⟩
end Go.Proofs.YbulkaxegFmt
