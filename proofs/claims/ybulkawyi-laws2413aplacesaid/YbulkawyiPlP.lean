import Derived.Test.YbulkawyiBuildA
namespace Go.Proofs.Ybulkawyi
open Go.RowKit
set_option linter.unusedVariables false

/-! ### plain laws on lists -/
theorem pair_get {α : Type} {R : α → α → Prop} : ∀ {L : List α}, L.Pairwise R → ∀ {i j : Nat} {a b : α}, i < j → L[i]? = some a → L[j]? = some b → R a b
  | [], _, i, j, a, b, _, hi, _ => by simp at hi
  | x :: L, h, 0, 0, a, b, hij, hi, hj => by omega
  | x :: L, h, 0, j + 1, a, b, hij, hi, hj => by
    simp at hi hj
    subst hi
    exact List.rel_of_pairwise_cons h (List.mem_of_getElem? hj)
  | x :: L, h, i + 1, 0, a, b, hij, hi, hj => by omega
  | x :: L, h, i + 1, j + 1, a, b, hij, hi, hj => by
    simp at hi hj
    exact pair_get (List.Pairwise.of_cons h) (by omega) hi hj

theorem getElem?_lt {α : Type} {L : List α} {k : Nat} {b : α} (h : L[k]? = some b) : k < L.length := by
  rcases Nat.lt_or_ge k L.length with h' | h'
  · exact h'
  · rw [List.getElem?_eq_none h'] at h; cases h

theorem id_iff {L : List Nb} (h : Ids L) {x : Int} {k : Nat} {b : Nb} (hb : L[k]? = some b) : b.id = x ↔ k = idx L x := by
  have hk := getElem?_lt hb
  constructor
  · intro he
    rcases Nat.lt_trichotomy k (idx L x) with h1 | h1 | h1
    · exact absurd he (idx_before h1 hb)
    · exact h1
    · obtain ⟨c, hc⟩ : ∃ c, L[idx L x]? = some c := ⟨_, List.getElem?_eq_getElem (by omega)⟩
      exact absurd ((idx_at hc).trans he.symm) (pair_get h h1 hc hb)
  · intro he
    subst he
    exact idx_at hb

theorem ins_at (K : List Nb) (o : Nb) : (ins K o)[pos K o]? = some o := by
  have := pos_le K o
  unfold ins
  rw [List.getElem?_append_right (by rw [List.length_take]; omega), List.length_take]
  simp [Nat.min_eq_left this]
theorem ins_lo {K : List Nb} {o b : Nb} {k : Nat} (hk : k < pos K o) (h : K[k]? = some b) : (ins K o)[k]? = some b := by
  have := pos_le K o
  unfold ins
  rw [List.getElem?_append_left (by rw [List.length_take]; omega), List.getElem?_take, if_pos hk]
  exact h
theorem ins_hi {K : List Nb} {o b : Nb} {k : Nat} (hk : pos K o ≤ k) (h : K[k]? = some b) : (ins K o)[k + 1]? = some b := by
  have := pos_le K o
  unfold ins
  rw [List.getElem?_append_right (by rw [List.length_take]; omega), List.length_take, Nat.min_eq_left this]
  rw [show k + 1 - pos K o = (k - pos K o) + 1 by omega, List.getElem?_cons_succ, List.getElem?_drop, show pos K o + (k - pos K o) = k by omega]
  exact h
theorem ins_id_iff {K : List Nb} {o : Nb} (hid : ∀ a ∈ K, a.id ≠ o.id) {k : Nat} {b : Nb} (hb : (ins K o)[k]? = some b) : b.id = o.id ↔ k = pos K o := by
  have hp := pos_le K o
  have hk : k < K.length + 1 := by have := getElem?_lt hb; rwa [ins_length] at this
  rcases Nat.lt_trichotomy k (pos K o) with h1 | h1 | h1
  · obtain ⟨c, hc⟩ : ∃ c, K[k]? = some c := ⟨_, List.getElem?_eq_getElem (by omega)⟩
    have := (ins_lo h1 hc).symm.trans hb
    cases this
    exact ⟨fun e => absurd e (hid _ (List.mem_of_getElem? hc)), fun e => by omega⟩
  · subst h1
    have := (ins_at K o).symm.trans hb
    cases this
    exact ⟨fun _ => rfl, fun _ => rfl⟩
  · obtain ⟨c, hc⟩ : ∃ c, K[k - 1]? = some c := ⟨_, List.getElem?_eq_getElem (by omega)⟩
    have h2 := ins_hi (o := o) (k := k - 1) (by omega) hc
    rw [show k - 1 + 1 = k by omega] at h2
    have := h2.symm.trans hb
    cases this
    exact ⟨fun e => absurd e (hid _ (List.mem_of_getElem? hc)), fun e => by omega⟩

/-! ### the state of the law's body -/
theorem RowAt.below {w wr : World} {a : Option Addr} {n : Nat} {L : List Nb} (h : RowAt w a n L) (hb : Below w.heap.size w wr) : RowAt wr a n L := fun k b hk => by
  obtain ⟨g, e1, e2, e3, e4⟩ := h k b hk
  exact ⟨g, e1, Nat.lt_of_lt_of_le e2 hb.size, e3, fun j hj => (hb.cell (p := ⟨g, k * 6 + j, none⟩) e2).trans (e4 j hj)⟩
theorem RowAt.of_own {w : World} {base n c : Nat} {a : Option Addr} {L : List Nb} (h : w.ownsRow base 48 6 (.slice a n c) n (flat L)) (hn : L.length = n) : RowAt w a n L := fun _ _ hb => own_elem h hn hb
/-- One element, cell by cell. -/
structure NbAt (w : World) (g : Nat) (o : Nat) (b : Nb) : Prop where
  c0 : w.cell? ⟨g, o, none⟩ = some (.int .u64 b.id)
  c1 : w.cell? ⟨g, o + 1, none⟩ = some (.float .f64 (pb b.pr))
  c2 : w.cell? ⟨g, o + 2, none⟩ = some (.bool b.st)
  c3 : w.cell? ⟨g, o + 3, none⟩ = some (.int .i64 b.hops)
  c4 : w.cell? ⟨g, o + 4, none⟩ = some (.int .u64 b.seq)
  c5 : w.cell? ⟨g, o + 5, none⟩ = some (.int .u64 b.named)
theorem NbAt.below {w wr : World} {g o : Nat} {b : Nb} (h : NbAt w g o b) (hg : g < w.heap.size) {q : Nat} (hb : Below w.heap.size (w.drewN q) wr) : NbAt wr g o b := by
  have k2 : ∀ o', wr.cell? ⟨g, o', none⟩ = w.cell? ⟨g, o', none⟩ := fun o' => hb.cell (p := ⟨g, o', none⟩) hg
  exact ⟨(k2 _).trans h.c0, (k2 _).trans h.c1, (k2 _).trans h.c2, (k2 _).trans h.c3, (k2 _).trans h.c4, (k2 _).trans h.c5⟩
theorem RowAt.nb {w : World} {a : Option Addr} {n : Nat} {L : List Nb} (h : RowAt w a n L) {k : Nat} {b : Nb} (hk : L[k]? = some b) : ∃ g, a = some ⟨g, 0, none⟩ ∧ g < w.heap.size ∧ k < n ∧ NbAt w g (k * 6) b := by
  obtain ⟨g, e1, e2, e3, e4⟩ := h k b hk
  exact ⟨g, e1, e2, e3, e4 0 (by omega), e4 1 (by omega), e4 2 (by omega), e4 3 (by omega), e4 4 (by omega), e4 5 (by omega)⟩

structure Ctx (w0 wx : World) (N B : Nat) (ao an : Option Addr) (nO nN cN : Nat) (L L' : List Nb) (o : Nb) : Prop where
  bel : Below w0.heap.size w0 wx
  old : RowAt wx ao nO L
  lenO : L.length = nO
  near : wx.cell? ⟨N, 38, none⟩ = some (.slice an nN cN)
  ltN : N < wx.heap.size
  row : RowAt wx an nN L'
  lenN : L'.length = nN
  ltB : B < wx.heap.size
  box : NbAt wx B 0 o
  good : Good L
  ok : o.Ok
  nw : L' = noteL L o
theorem Ctx.below {w0 wx wr : World} {N B : Nat} {ao an : Option Addr} {nO nN cN : Nat} {L L' : List Nb} {o : Nb} (h : Ctx w0 wx N B ao an nO nN cN L L' o) (hb : Below wx.heap.size wx wr) : Ctx w0 wr N B ao an nO nN cN L L' o :=
  ⟨h.bel.trans (hb.mono h.bel.size), h.old.below hb, h.lenO, (hb.cell (p := ⟨N, 38, none⟩) h.ltN).trans h.near, Nat.lt_of_lt_of_le h.ltN hb.size, h.row.below hb, h.lenN, Nat.lt_of_lt_of_le h.ltB hb.size, h.box.below h.ltB (q := 0) hb, h.good, h.ok, h.nw⟩
theorem Ctx.good' {w0 wx : World} {N B : Nat} {ao an : Option Addr} {nO nN cN : Nat} {L L' : List Nb} {o : Nb} (h : Ctx w0 wx N B ao an nO nN cN L L' o) : Good L' := by rw [h.nw]; exact noteL_good h.good h.ok
end Go.Proofs.Ybulkawyi
