import Derived.Test.YbulkawzkFmtBe
namespace Go.Proofs.YbulkawzkFmt
open Go.RowKit Go.Extern.Stop Go.Stop Go.Extern
set_option linter.unusedVariables false

/-- A source of bytes that the buffer's growth leaves alone. -/
def SrcK (B : Nat) (r : Option Nat) (w : World) (sv : Value) (m : Nat) (news : List Value) : Prop :=
  (sv = .slice none 0 0 ∧ m = 0 ∧ news = []) ∨ ∃ ad c, sv = .slice (some ad) m c ∧ news.length = m ∧ (0 < m → ad.block < B ∧ some ad.block ≠ r) ∧ (∀ j u, news[j]? = some u → w.cell? (ad.add j) = some u) ∧ ∀ u ∈ news, u.oneCell' = true
theorem SrcK.src {B : Nat} {r : Option Nat} {w : World} {sv : Value} {m : Nat} {news : List Value} (h : SrcK B r w sv m news) : Src w sv m news := by
  rcases h with h | ⟨ad, c, h1, h2, _, h4, h5⟩
  · exact .inl h
  · exact .inr ⟨ad, c, h1, h2, h4, h5⟩
theorem lt_of_get {α : Type} {l : List α} {j : Nat} {u : α} (h : l[j]? = some u) : j < l.length := by
  rcases Nat.lt_or_ge j l.length with h' | h'
  · exact h'
  · rw [List.getElem?_eq_none h'] at h; cases h
theorem SrcK.kept {B : Nat} {r : Option Nat} {w w' : World} {sv : Value} {m : Nat} {news : List Value} (h : SrcK B r w sv m news) (hk : Kept B r w w') : SrcK B r w' sv m news := by
  rcases h with h | ⟨ad, c, h1, h2, h3, h4, h5⟩
  · exact .inl h
  · refine .inr ⟨ad, c, h1, h2, h3, fun j u hj => ?_, h5⟩
    have := h3 (by have := lt_of_get hj; omega)
    rw [hk.cell (p := ad.add j) (by rw [add_block]; exact this.1) (by rw [add_block]; exact this.2)]
    exact h4 j u hj

theorem u64_lo (x : Int) : 0 ≤ IntKind.u64.wrap x := by rw [IntKind.wrap_u64]; exact Int.emod_nonneg _ (by omega)
theorem u64_hi (x : Int) : IntKind.u64.wrap x < 18446744073709551616 := by rw [IntKind.wrap_u64]; exact Int.emod_lt_of_pos _ (by omega)

/-- The buffer alone: all else stays. -/
theorem Buf.alone {B : Nat} {r : Option Nat} {w : World} {v : Value} {n : Nat} {xs : List Value} (h : Buf B r w v n xs) : Buf w.heap.size v.ownBlock w v n xs := ⟨h.own, .inl rfl⟩
theorem Buf.lift {B B1 : Nat} {r : Option Nat} {w w' : World} {v v' : Value} {n n' : Nat} {xs xs' : List Value} (h : Buf B r w v n xs) (hB : B ≤ B1) (h' : Buf B1 v.ownBlock w' v' n' xs') : Buf B r w' v' n' xs' := by
  refine ⟨h'.own, ?_⟩
  rcases h'.ob with e | ⟨g, e, hg⟩
  · rw [e]; exact h.ob
  · exact .inr ⟨g, e, by omega⟩
theorem Buf.liftK {B B1 : Nat} {r : Option Nat} {w W w' : World} {v : Value} {n : Nat} {xs : List Value} (h : Buf B r w v n xs) (hB : B ≤ B1) (h' : Kept B1 v.ownBlock W w') : Kept B r W w' := by
  refine ⟨h'.os, h'.tape, h'.output, h'.size, fun k hk hr => h'.block k (by omega) ?_⟩
  intro e
  rcases h.ob with e2 | ⟨g, e2, hg⟩
  · exact hr (e.trans e2)
  · rw [e2] at e
    cases e
    omega
theorem Buf.ne {B : Nat} {r : Option Nat} {w : World} {v : Value} {n : Nat} {xs : List Value} (h : Buf B r w v n xs) {k : Nat} (hk : w.heap.size ≤ k) : some k ≠ v.ownBlock := by
  intro e
  have := (World.ownsRow.lt h.own k e.symm).2
  omega

set_option maxRecDepth 100000 in
set_option maxHeartbeats 4000000 in
theorem one_calls (B : Nat) (r : Option Nat) (v : Value) (n : Nat) (xs : List Value) (who : Int) (ad : Option Addr) (len cap : Nat) (bs : List Value) (w : World) (h : Buf B r w v n xs) (hB : B ≤ w.heap.size) (hn : n ≤ 80000) (hl : len ≤ 64) (hs : SrcK B r w (.slice ad len cap) len bs) :
    Calls Ybaf.prog 16 #[v, .agg #[.int .i64 who, .slice ad len cap]] w fun e w' => ∃ v', e = .returned v' ∧ Buf B r w' v' (n + 8 + len) (xs ++ be64 (IntKind.u64.wrap who) ++ bs) ∧ Kept B r w w' := by
  obtain ⟨a, c, rfl⟩ := h.shape
  have hb1 : Below w.heap.size w (w.alloc (.cells #[.int .i64 who, .slice ad len cap] 31)) := (Below.refl _ _).alloc (Nat.le_refl _) _
  have h1 := h.below hb1
  have HC : Hid _ := be64_calls _ _ _ n xs (IntKind.u64.wrap who) (w.alloc (.cells #[.int .i64 who, .slice ad len cap] 31)) (u64_lo _) (u64_hi _) h1.alone (Nat.le_refl _) (by omega)
  have hk0 : Kept B r w (w.alloc (.cells #[.int .i64 who, .slice ad len cap] 31)) := Kept.of_below hb1 hB
  have hsz : (w.alloc (.cells #[.int .i64 who, .slice ad len cap] 31)).heap.size = w.heap.size + 1 := by simp
  have hc1 : (w.alloc (.cells #[.int .i64 who, .slice ad len cap] 31)).cell? ⟨w.heap.size, 1, none⟩ = some (.slice ad len cap) := by rw [World.cell?_alloc_new]; rfl
  have HALL : Hid (∀ v2 w2, Buf (w.alloc (.cells #[.int .i64 who, .slice ad len cap] 31)).heap.size (Value.slice a n c).ownBlock w2 v2 (n + 8) (xs ++ be64 (IntKind.u64.wrap who)) → Kept (w.alloc (.cells #[.int .i64 who, .slice ad len cap] 31)).heap.size (Value.slice a n c).ownBlock (w.alloc (.cells #[.int .i64 who, .slice ad len cap] 31)) w2 →
      ∃ a2 c2, v2 = .slice a2 (n + 8) c2 ∧ w2.cell? ⟨w.heap.size, 1, none⟩ = some (.slice ad len cap) ∧ ∃ v3 w3, (Builtin.append_ #[25, 25] 25 #[.slice a2 (n + 8) c2, .slice ad len cap]).run Ybaf.prog w2 = .ok v3 w3 ∧ Hid (Buf B r w3 v3 (n + 8 + len) (xs ++ be64 (IntKind.u64.wrap who) ++ bs)) ∧ Hid (Kept B r w w3)) := by
    intro v2 w2 hb hk
    obtain ⟨a2, c2, rfl⟩ := hb.shape
    have hbB := h1.lift (by omega) hb
    have hkB := hk0.trans (h1.liftK (by omega) hk)
    obtain ⟨v3, w3, hr, hb3, hk3⟩ := buf_append hbB (Nat.le_trans hB hkB.size) (SrcK.src (hs.kept hkB)) (by omega)
    refine ⟨a2, c2, rfl, (hk.cell (p := ⟨w.heap.size, 1, none⟩) (by show w.heap.size < _; omega) (h.ne (Nat.le_refl _))).trans hc1, v3, w3, hr, hb3, hkB.trans hk3⟩
  clear hb1 h1 hk0 hsz hc1 h hs
  go_enter Ybaf.func16, Ybaf.ntmps16
  go_wp2_with fail
  refine Calls.mono (HC.out) ?_
  rintro e w2 ⟨v2, rfl, hb, hk⟩
  obtain ⟨a2, c2, rfl, hcell, v3, w3, hr, HB3, HK3⟩ := HALL.out v2 w2 hb hk
  clear hb hk HALL
  go_wp2_with (at_builtin; refine Lib.wpList_append_run _ rfl _ _ _ _ rfl _ _ rfl rfl v3 w3 hr ?_)
  go_ret
  exact ⟨v3, rfl, HB3.out, HK3.out⟩
end Go.Proofs.YbulkawzkFmt
