import Derived.Test.YbulkawzkFmtRefE
namespace Go.Proofs.YbulkawzkFmt
open Go.RowKit Go.Extern.Stop Go.Stop Go.Extern
set_option linter.unusedVariables false

/-! ### a buffer of bytes that grows -/
structure Kept (B : Nat) (r : Option Nat) (w w' : World) : Prop where
  os : w'.os = w.os
  tape : w'.tape = w.tape
  output : w'.output = w.output
  size : w.heap.size ≤ w'.heap.size
  block : ∀ k, k < B → some k ≠ r → w'.heap[k]? = w.heap[k]?
theorem Kept.refl (B : Nat) (r : Option Nat) (w : World) : Kept B r w w := ⟨rfl, rfl, rfl, Nat.le_refl _, fun _ _ _ => rfl⟩
theorem Kept.trans {B : Nat} {r : Option Nat} {w w1 w2 : World} (h : Kept B r w w1) (h' : Kept B r w1 w2) : Kept B r w w2 :=
  ⟨h'.os.trans h.os, h'.tape.trans h.tape, h'.output.trans h.output, Nat.le_trans h.size h'.size, fun k hk hr => (h'.block k hk hr).trans (h.block k hk hr)⟩
theorem Kept.cell {B : Nat} {r : Option Nat} {w w' : World} (h : Kept B r w w') {p : Addr} (hp : p.block < B) (hr : some p.block ≠ r) : w'.cell? p = w.cell? p := World.cell?_of_block (w := w) (h.block p.block hp hr)
theorem Kept.of_below {B : Nat} {r : Option Nat} {w w' : World} (h : Below w.heap.size w w') (hB : B ≤ w.heap.size) : Kept B r w w' := ⟨h.os, h.tape, h.output, h.size, fun k hk _ => h.block k (by omega)⟩
theorem Kept.drewN {B : Nat} {r : Option Nat} {w w' : World} (h : Kept B r w w') (q : Nat) : Kept B r w (w'.drewN q) := ⟨h.os, h.tape, h.output, h.size, h.block⟩

structure Buf (B : Nat) (r : Option Nat) (w : World) (v : Value) (n : Nat) (xs : List Value) : Prop where
  own : w.ownsRow 0 5 1 v n xs
  ob : v.ownBlock = r ∨ ∃ g, v.ownBlock = some g ∧ B ≤ g
theorem Buf.len {B : Nat} {r : Option Nat} {w : World} {v : Value} {n : Nat} {xs : List Value} (h : Buf B r w v n xs) : xs.length = n := by have := h.own.1; omega
theorem Buf.shape {B : Nat} {r : Option Nat} {w : World} {v : Value} {n : Nat} {xs : List Value} (h : Buf B r w v n xs) : ∃ a c, v = .slice a n c := by
  rcases h.own.2 with ⟨rfl, rfl⟩ | ⟨g, cap, cur, rfl, _⟩
  · exact ⟨_, _, rfl⟩
  · exact ⟨_, _, rfl⟩
theorem own_val {w w' : World} {v : Value} {n : Nat} {xs : List Value} (h : w.ownsRow 0 5 1 v n xs) (hb : ∀ g, v.ownBlock = some g → w'.heap[g]? = w.heap[g]?) : w'.ownsRow 0 5 1 v n xs := by
  refine ⟨h.1, ?_⟩
  rcases h.2 with h2 | ⟨g, cap, cur, e1, e2, e3, e4, e5, e6, e7⟩
  · exact .inl h2
  · exact .inr ⟨g, cap, cur, e1, e2, (hb g (by rw [e1]; rfl)).trans e3, e4, e5, e6, e7⟩
theorem Buf.below {B : Nat} {r : Option Nat} {w w' : World} {v : Value} {n : Nat} {xs : List Value} (h : Buf B r w v n xs) (hb : Below w.heap.size w w') : Buf B r w' v n xs :=
  ⟨own_val h.own (fun g hg => hb.block g (World.ownsRow.lt h.own g hg).2), h.ob⟩

/-- What is appended: the bytes of a slice. -/
def Src (w : World) (sv : Value) (m : Nat) (news : List Value) : Prop := (sv = .slice none 0 0 ∧ m = 0 ∧ news = []) ∨ ∃ ad c, sv = .slice (some ad) m c ∧ news.length = m ∧ (∀ j u, news[j]? = some u → w.cell? (ad.add j) = some u) ∧ ∀ u ∈ news, u.oneCell' = true

theorem buf_append {B : Nat} {r : Option Nat} {w : World} {v sv : Value} {n m : Nat} {xs news : List Value} (h : Buf B r w v n xs) (hB : B ≤ w.heap.size) (hs : Src w sv m news) (hn : n + m ≤ 100000) :
    ∃ v' w', (Builtin.append_ #[25, 25] 25 #[v, sv]).run Ybaf.prog w = .ok v' w' ∧ Buf B r w' v' (n + m) (xs ++ news) ∧ Kept B r w w' := by
  obtain ⟨i0, hi, hz0, hz1, hz2⟩ := parts info5
  rcases hs with ⟨rfl, rfl, rfl⟩ | ⟨ad, c, rfl, hl, hnews, h1⟩
  · exact ⟨v, w, run_append_owned_none (P := Ybaf.prog) w 0 25 25 5 i0 1 Ybaf.underlying25 hi v n xs h.own, by simpa using h, Kept.refl _ _ _⟩
  · obtain ⟨v', w', hr, h2, h3, h4⟩ := run_append_own (P := Ybaf.prog) w 0 25 25 5 i0 _ 1 1 Ybaf.underlying25 hi hz0 hz1 hz2 rfl (by decide) v n xs h.own ad m c news (by omega) hnews h1 (by unfold maxLen; omega) (by omega) (Nat.zero_le _)
    have hob : v'.ownBlock = v.ownBlock ∨ v'.ownBlock = some w.heap.size := by
      rcases h.own.2 with ⟨rfl, rfl⟩ | ⟨g, cap, cur, rfl, hbg, hg, hnc, hcm, hcs, htake⟩
      · by_cases hm : m = 0
        · left
          rw [h4.2 ⟨rfl, hm⟩]
        · have hr2 := run_append_nil (P := Ybaf.prog) w 25 25 5 i0 _ Ybaf.underlying25 hi hz0 ad m c news (by rw [hz1]; omega) hnews (by omega) (by omega) (by rw [hz2]; omega)
          rw [hr2] at hr
          cases hr
          right; rfl
      · by_cases hroom : n + m ≤ cap
        · have hr2 := run_append_room (P := Ybaf.prog) w 25 25 5 i0 Ybaf.underlying25 hi g n cap cur hg ad m c news (by rw [hz1]; omega) hnews h1 hroom (by rw [hz1]; omega)
          rw [hr2] at hr
          cases hr
          left; rfl
        · have hr2 := run_append_grow (P := Ybaf.prog) w 25 25 5 i0 _ Ybaf.underlying25 hi hz0 ⟨g, 0, none⟩ n cap xs (by rw [hz1]; exact h.own.1) (h.own.cells (g := g) rfl) ad m c news (by rw [hz1]; omega) hnews (by omega) (by omega) (by rw [hz2]; exact growslice_fits (by omega) (by omega))
          rw [hr2] at hr
          cases hr
          right; rfl
    refine ⟨v', w', hr, ⟨h2, ?_⟩, ⟨h3.os, h3.tape, h3.output, h3.size, fun k hk hkr => h3.block k (by omega) ?_⟩⟩
    · rcases hob with e | e
      · rw [e]; exact h.ob
      · exact .inr ⟨_, e, hB⟩
    · intro e
      rcases h.ob with e2 | ⟨g, e2, hg⟩
      · exact hkr (e.trans e2)
      · rw [e2] at e
        cases e
        omega
end Go.Proofs.YbulkawzkFmt
