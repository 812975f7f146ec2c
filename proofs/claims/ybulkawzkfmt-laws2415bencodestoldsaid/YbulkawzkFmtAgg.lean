import Derived.Test.YbulkawzkFmtSig
namespace Go.Proofs.YbulkawzkFmt
open Go.RowKit Go.Extern.Stop Go.Stop Go.Extern
set_option linter.unusedVariables false

theorem rowS_one {w : World} {g : Nat} {e : Sg} (hg : g < w.heap.size) (h0 : w.cell? ⟨g, 0, none⟩ = some (.int .i64 e.who)) (h1 : w.cell? ⟨g, 1, none⟩ = some (.slice e.ad e.len e.cap)) : RowS w (some ⟨g, 0, none⟩) 1 [e] := fun k x hk => by
  have : k = 0 := by
    rcases k with _ | k
    · rfl
    · simp at hk
  subst this
  simp at hk
  subst hk
  exact ⟨g, rfl, hg, by omega, h0, h1⟩

set_option maxRecDepth 100000 in
set_option maxHeartbeats 4000000 in
theorem refuse_calls (F : Interp) (buf : Value) (M n c n2 c2 n3 c3 : Nat) (a a2 a3 : Option Addr) (E : List Sg) (w : World) (hF : F.answers w.tape) (hM : M < w.heap.size)
    (m4 : w.cell? ⟨M, 35, none⟩ = some (.slice a n c)) (m5 : w.cell? ⟨M, 36, none⟩ = some (.slice a2 n2 c2)) (m6 : w.cell? ⟨M, 37, none⟩ = some (.slice a3 n3 c3))
    (hn : E.length = n) (hm : n ≤ 1000) (hr : RowS w a n E) (hbad : (∃ e ∈ E, e.len ≠ 64) ∨ (0 < n2 ∧ n3 ≠ 64)) :
    Calls Ybaf.prog 6 #[buf, .pointer (some ⟨M, 0, none⟩)] w fun e w' => (∃ p, e = .returned (.tuple #[.slice none 0 0, .iface 59 (.pointer (some p))])) ∧ Below w.heap.size w w' := by
  have HC : Hid _ := check_calls F E n c a w hF hn hm hr
  have HF : Hid _ := hF
  have HBAD : Hid _ := hbad
  have hm5 : ∀ w', Below w.heap.size w w' → w'.cell? ⟨M, 36, none⟩ = some (.slice a2 n2 c2) := fun w' hb => (hb.cell (p := ⟨M, 36, none⟩) hM).trans m5
  have hm6 : ∀ w', Below w.heap.size w w' → w'.cell? ⟨M, 37, none⟩ = some (.slice a3 n3 c3) := fun w' hb => (hb.cell (p := ⟨M, 37, none⟩) hM).trans m6
  have HM5 : Hid _ := hm5
  have HM6 : Hid _ := hm6
  clear hF hr hbad hm5 hm6 m5 m6
  go_enter Ybaf.func6, Ybaf.ntmps6
  go_wp2_with fail
  refine Calls.mono (Hid.out HC) ?_
  rintro e w2 ⟨v, rfl, hck, hb⟩
  rcases hck with ⟨rfl, hall⟩ | ⟨⟨p, rfl⟩, hex⟩
  · obtain ⟨hn2, hn3⟩ : 0 < n2 ∧ n3 ≠ 64 := by
      rcases HBAD.out with ⟨e, he, h⟩ | h
      · exact absurd (hall e he) h
      · exact h
    have hn2' : (0 : Int) < (n2 : Int) := by omega
    have k5 := HM5.out w2 hb
    have k6 := HM6.out w2 hb
    have HC2 : Hid (Calls Ybaf.prog 10 #[.slice (some ⟨w2.heap.size, 0, none⟩) 1 1] (w2.alloc (.cells #[.int .i64 0, .slice a3 n3 c3] 31)) fun e w' => (∃ p, e = .returned (.iface 59 (.pointer (some p)))) ∧ Below w.heap.size w w') := by
      have h0 : (w2.alloc (.cells #[.int .i64 0, .slice a3 n3 c3] 31)).cell? ⟨w2.heap.size, 0, none⟩ = some (.int .i64 0) := by rw [World.cell?_alloc_new]; rfl
      have h1 : (w2.alloc (.cells #[.int .i64 0, .slice a3 n3 c3] 31)).cell? ⟨w2.heap.size, 1, none⟩ = some (.slice a3 n3 c3) := by rw [World.cell?_alloc_new]; rfl
      refine (check_calls F [⟨0, a3, n3, c3⟩] 1 1 (some ⟨w2.heap.size, 0, none⟩) (w2.alloc (.cells #[.int .i64 0, .slice a3 n3 c3] 31)) (by show F.answers w2.tape; rw [hb.tape]; exact HF.out) rfl (by omega) (rowS_one (e := ⟨0, a3, n3, c3⟩) (by simp) h0 h1)).mono ?_
      rintro e w' ⟨v, rfl, hck, hb'⟩
      refine ⟨?_, (hb.alloc hb.size _).trans (hb'.mono (by have := hb.size; simp; omega))⟩
      rcases hck with ⟨rfl, hall⟩ | ⟨⟨p, rfl⟩, hex⟩
      · exact absurd (hall _ (List.mem_singleton.2 rfl)) hn3
      · exact ⟨p, rfl⟩
    have HB : Hid _ := hb
    clear hall hn3 hb
    go_wp2_with (go_at_call 10; refine Calls.mono (Hid.out HC2) ?_; rintro e w' ⟨⟨p, rfl⟩, hb'⟩)
    go_ret2
    exact ⟨⟨p, rfl⟩, hb'⟩
  · have HB : Hid _ := hb
    clear hb hex
    go_wp2
    go_ret2
    exact ⟨⟨p, rfl⟩, HB.out⟩
end Go.Proofs.YbulkawzkFmt
