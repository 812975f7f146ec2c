import Derived.Test.YbulkaxegFmtFacts
import Derived.Lib.ConvBytes
import Derived.ProofKit
namespace Go.Proofs.YbulkaxegFmt
open Go.RowKit Go.Extern.Stop Go.Stop Go.Extern
set_option linter.unusedVariables false

theorem text_out (F : Interp) (ad : Option Addr) (len cap : Nat) (kind : ByteArray) (i : Int) (w : World) (hF : F.answers w.tape) (hi : i < 0 ∨ (len : Int) ≤ i) :
    Calls Ybaf.prog 4 #[.slice ad len cap, .string kind, .int .i64 i] w fun e w' => (∃ p, e = .returned (.tuple #[.slice none 0 0, .iface 33 (.pointer (some p))])) ∧ Below w.heap.size w w' := by
  have h0 : (w.alloc (.cells #[.iface 9 (.string kind), .iface 3 (.int .i64 i)] 20)).cell? ⟨w.heap.size, 0, none⟩ = some (.iface 9 (.string kind)) := by rw [World.cell?_alloc_new]; rfl
  have h1 : (w.alloc (.cells #[.iface 9 (.string kind), .iface 3 (.int .i64 i)] 20)).cell? ⟨w.heap.size, 1, none⟩ = some (.iface 3 (.int .i64 i)) := by rw [World.cell?_alloc_new]; rfl
  have HC : Hid _ := errorf_calls F kind i w.heap.size (w.alloc (.cells #[.iface 9 (.string kind), .iface 3 (.int .i64 i)] 20)) hF h0 h1
  clear h0 h1
  by_cases hn : i < 0
  · go_enter Ybaf.func4, Ybaf.ntmps4
    go_wp2_with (go_at_call 5; refine Calls.mono (Hid.out HC) ?_; rintro e w' ⟨p, rfl, hb⟩)
    go_ret2
    exact ⟨⟨_, rfl⟩, ((Below.refl _ _).alloc (Nat.le_refl _) _).trans (hb.mono (by simp))⟩
  · have hg : (len : Int) ≤ i := by omega
    go_enter Ybaf.func4, Ybaf.ntmps4
    go_wp2_with (go_at_call 5; refine Calls.mono (Hid.out HC) ?_; rintro e w' ⟨p, rfl, hb⟩)
    go_ret2
    exact ⟨⟨_, rfl⟩, ((Below.refl _ _).alloc (Nat.le_refl _) _).trans (hb.mono (by simp))⟩

theorem below_bytes (w : World) (e : TypeId) (s : ByteArray) : Below w.heap.size w (Lib.bytesWorld w e s) :=
  ⟨rfl, rfl, rfl, by rw [Lib.bytesWorld_size]; omega, fun k hk => Lib.bytesWorld_at_old w e s k hk⟩

theorem text_in (b off len cap : Nat) (kind s : ByteArray) (i : Nat) (w : World) (hi : i < len) (hc : w.cell? ⟨b, off + i, none⟩ = some (.string s)) :
    Calls Ybaf.prog 4 #[.slice (some ⟨b, off, none⟩) len cap, .string kind, .int .i64 i] w fun e w' => (∃ c, e = .returned (.tuple #[.slice (some ⟨w.heap.size, 0, none⟩) s.size c, .nilIface])) ∧ w' = Lib.bytesWorld w 5 s := by
  have hi' : (i : Int) < (len : Int) := by omega
  have hcv := Lib.run_convert_string_bytes (P := Ybaf.prog) w 9 23 5 s Ybaf.underlying9 Ybaf.underlying23 Ybaf.underlying5
  go_enter Ybaf.func4, Ybaf.ntmps4
  go_wp2
  go_ret2
  exact ⟨⟨_, rfl⟩, rfl⟩
end Go.Proofs.YbulkaxegFmt
