import Derived.Test.YbulkawyiNb
namespace Go.Proofs.Ybulkawyi
set_option linter.unusedVariables false

/-! ### what 'note' does, on plain lists -/
def flat (L : List Nb) : List Value := L.flatMap Nb.cells

theorem flat_nil : flat [] = [] := rfl
theorem flat_cons (a : Nb) (L : List Nb) : flat (a :: L) = a.cells ++ flat L := by simp [flat]
theorem flat_append (A B : List Nb) : flat (A ++ B) = flat A ++ flat B := by simp [flat]
theorem flat_length (L : List Nb) : (flat L).length = L.length * 6 := by
  induction L with
  | nil => rfl
  | cons a L ih => rw [flat_cons, List.length_append, ih]; simp [Nb.cells]; omega
theorem flat_take : ∀ (L : List Nb) (k : Nat), (flat L).take (k * 6) = flat (L.take k)
  | [], k => by simp [flat]
  | a :: L, 0 => by simp [flat]
  | a :: L, k + 1 => by
    rw [flat_cons, List.take_succ_cons, flat_cons, ← flat_take L k]
    have : (k + 1) * 6 = a.cells.length + k * 6 := by simp [Nb.cells]; omega
    rw [this, List.take_length_add_append]
theorem flat_drop : ∀ (L : List Nb) (k : Nat), (flat L).drop (k * 6) = flat (L.drop k)
  | [], k => by simp [flat]
  | a :: L, 0 => by simp [flat]
  | a :: L, k + 1 => by
    rw [flat_cons, List.drop_succ_cons, ← flat_drop L k]
    have : (k + 1) * 6 = a.cells.length + k * 6 := by simp [Nb.cells]; omega
    rw [this, List.drop_length_add_append]
theorem flat_get {L : List Nb} {k : Nat} {b : Nb} (h : L[k]? = some b) (j : Nat) (hj : j < 6) : (flat L)[k * 6 + j]? = b.cells[j]? := by
  rw [← List.getElem?_drop, flat_drop]
  have hk : k < L.length := by
    rcases Nat.lt_or_ge k L.length with h' | h'
    · exact h'
    · rw [List.getElem?_eq_none h'] at h; cases h
  rw [List.drop_eq_getElem_cons hk, flat_cons]
  rw [List.getElem?_eq_getElem hk] at h
  cases h
  rw [List.getElem?_append_left (by simp [Nb.cells]; omega)]
theorem cells_one (a : Nb) : ∀ u ∈ a.cells, u.oneCell' = true := by
  intro u hu
  simp [Nb.cells] at hu
  rcases hu with h | h | h | h | h | h <;> subst h <;> rfl
theorem flat_one (L : List Nb) : ∀ u ∈ flat L, u.oneCell' = true := by
  intro u hu
  simp only [flat, List.mem_flatMap] at hu
  obtain ⟨a, _, h⟩ := hu
  exact cells_one a u h

def candEq (a b : Nb) : Bool := a.id == b.id && (a.pr == b.pr && a.pr != -4) && a.st == b.st
def idx (L : List Nb) (x : Int) : Nat := L.findIdx (fun b => b.id == x)
def pos (L : List Nb) (o : Nb) : Nat := L.findIdx (fun b => !decide (b.key < o.key))
def ins (L : List Nb) (o : Nb) : List Nb := L.take (pos L o) ++ (o :: L.drop (pos L o))
def early (L : List Nb) (o : Nb) : Bool := L.length == 6 && (match L[5]? with | some l => l.id != o.id && !decide (o.key < l.key) | none => false)
/-- What is left of the list when o's place is to be found anew. -/
def rest (L : List Nb) (o : Nb) : List Nb := if idx L o.id < L.length then L.eraseIdx (idx L o.id) else if L.length = 6 then L.take 5 else L
def noteL (L : List Nb) (o : Nb) : List Nb :=
  if early L o then L else
    match L[idx L o.id]? with
    | some b => if o.seq < b.seq then L else if b.hops == o.hops && candEq b o then L.set (idx L o.id) { b with seq := o.seq } else ins (rest L o) o
    | none => ins (rest L o) o

theorem idx_le (L : List Nb) (x : Int) : idx L x ≤ L.length := List.findIdx_le_length
theorem pos_le (L : List Nb) (o : Nb) : pos L o ≤ L.length := List.findIdx_le_length
theorem idx_before {L : List Nb} {x : Int} {k : Nat} {b : Nb} (hk : k < idx L x) (h : L[k]? = some b) : b.id ≠ x := by
  have hl : k < L.length := Nat.lt_of_lt_of_le hk (idx_le L x)
  have := List.not_of_lt_findIdx hk
  rw [List.getElem?_eq_getElem hl] at h
  cases h
  simpa using this
theorem idx_at {L : List Nb} {x : Int} {b : Nb} (h : L[idx L x]? = some b) : b.id = x := by
  have hl : idx L x < L.length := by
    rcases Nat.lt_or_ge (idx L x) L.length with h' | h'
    · exact h'
    · rw [List.getElem?_eq_none h'] at h; cases h
  have := List.findIdx_getElem (w := hl)
  rw [List.getElem?_eq_getElem hl] at h
  cases h
  simp at this
  exact this
theorem pos_before {L : List Nb} {o : Nb} {k : Nat} {b : Nb} (hk : k < pos L o) (h : L[k]? = some b) : b.key < o.key := by
  have hl : k < L.length := Nat.lt_of_lt_of_le hk (pos_le L o)
  have := List.not_of_lt_findIdx hk
  rw [List.getElem?_eq_getElem hl] at h
  cases h
  simpa using this
theorem pos_at {L : List Nb} {o : Nb} {b : Nb} (h : L[pos L o]? = some b) : ¬ b.key < o.key := by
  have hl : pos L o < L.length := by
    rcases Nat.lt_or_ge (pos L o) L.length with h' | h'
    · exact h'
    · rw [List.getElem?_eq_none h'] at h; cases h
  have := List.findIdx_getElem (w := hl)
  rw [List.getElem?_eq_getElem hl] at h
  cases h
  simp at this
  exact Int.not_lt.2 this

/-! ### the law: sorted, no id twice, at most six -/
/-- Strictly ascending keys. -/
def Sorted (L : List Nb) : Prop := L.Pairwise (fun a b => a.key < b.key)
def Ids (L : List Nb) : Prop := L.Pairwise (fun a b => a.id ≠ b.id)
structure Good (L : List Nb) : Prop where
  ok : ∀ a ∈ L, a.Ok
  sorted : Sorted L
  ids : Ids L
  len : L.length ≤ 6

theorem key_ne {a b : Nb} (ha : a.Ok) (hb : b.Ok) (h : a.id ≠ b.id) : a.key ≠ b.key := by
  obtain ⟨a1, a2, a3, a4, a5, a6⟩ := ha
  obtain ⟨b1, b2, b3, b4, b5, b6⟩ := hb
  unfold Nb.key Nb.ck bit01
  cases a.st <;> cases b.st <;> simp <;> omega

theorem mem_take_pos {L : List Nb} {o a : Nb} (h : a ∈ L.take (pos L o)) : a.key < o.key := by
  obtain ⟨k, hk, e⟩ := List.mem_iff_getElem.1 h
  have hk' : k < pos L o := by simp at hk; omega
  refine pos_before (L := L) (k := k) hk' ?_
  rw [← e, List.getElem_take]
  simp at hk
  exact List.getElem?_eq_getElem (by omega)

theorem ins_mem {L : List Nb} {o a : Nb} : a ∈ ins L o ↔ a = o ∨ a ∈ L := by
  unfold ins
  conv => rhs; rw [← List.take_append_drop (pos L o) L]
  simp only [List.mem_append, List.mem_cons]
  constructor
  · rintro (h | h | h)
    · exact .inr (.inl h)
    · exact .inl h
    · exact .inr (.inr h)
  · rintro (h | h | h)
    · exact .inr (.inl h)
    · exact .inl h
    · exact .inr (.inr h)

theorem ins_length (L : List Nb) (o : Nb) : (ins L o).length = L.length + 1 := by
  have := pos_le L o
  simp [ins]; omega

/-- An o of another id than all of them goes into a sorted list and leaves it sorted. -/
theorem ins_good {L : List Nb} {o : Nb} (h : Good L) (ho : o.Ok) (hid : ∀ a ∈ L, a.id ≠ o.id) (hl : L.length ≤ 5) : Good (ins L o) := by
  have hdrop : ∀ b ∈ L.drop (pos L o), o.key < b.key := by
    intro b hb
    have hlt : pos L o < L.length := by
      rcases Nat.lt_or_ge (pos L o) L.length with h' | h'
      · exact h'
      · rw [List.drop_eq_nil_of_le h'] at hb; cases hb
    rw [List.drop_eq_getElem_cons hlt] at hb
    have hx : ∀ x : Nb, x ∈ L → ¬ x.key < o.key → o.key < x.key := fun x hx hk => by
      have := key_ne (h.ok x hx) ho (hid x hx)
      omega
    have h0 : o.key < L[pos L o].key := hx _ (List.getElem_mem hlt) (pos_at (List.getElem?_eq_getElem hlt))
    rcases List.mem_cons.1 hb with e | hb
    · rw [e]; exact h0
    · have hs : Sorted (L.drop (pos L o)) := List.Pairwise.sublist (List.drop_sublist _ _) h.sorted
      rw [List.drop_eq_getElem_cons hlt] at hs
      have := (List.pairwise_cons.1 hs).1 b hb
      omega
  refine ⟨?_, ?_, ?_, by rw [ins_length]; omega⟩
  · intro a ha
    rcases ins_mem.1 ha with e | ha
    · rw [e]; exact ho
    · exact h.ok a ha
  · unfold Sorted ins
    rw [List.pairwise_append]
    refine ⟨List.Pairwise.sublist (List.take_sublist _ _) h.sorted, ?_, ?_⟩
    · rw [List.pairwise_cons]
      exact ⟨hdrop, List.Pairwise.sublist (List.drop_sublist _ _) h.sorted⟩
    · intro a ha b hb
      have h1 := mem_take_pos ha
      rcases List.mem_cons.1 hb with e | hb
      · rw [e]; exact h1
      · have := hdrop b hb; omega
  · unfold Ids ins
    have hids := h.ids
    unfold Ids at hids
    rw [← List.take_append_drop (pos L o) L, List.pairwise_append] at hids
    rw [List.pairwise_append, List.pairwise_cons]
    refine ⟨hids.1, ⟨fun b hb => (hid b (List.mem_of_mem_drop hb)).symm, hids.2.1⟩, ?_⟩
    intro a ha b hb
    rcases List.mem_cons.1 hb with e | hb
    · rw [e]; exact hid a (List.mem_of_mem_take ha)
    · exact hids.2.2 a ha b hb

theorem rest_sub (L : List Nb) (o : Nb) : (rest L o).Sublist L := by
  unfold rest
  split
  · exact List.eraseIdx_sublist _ _
  · split
    · exact List.take_sublist _ _
    · exact List.Sublist.refl _
theorem good_sub {A L : List Nb} (h : Good L) (hs : A.Sublist L) : Good A :=
  ⟨fun a ha => h.ok a (hs.subset ha), List.Pairwise.sublist hs h.sorted, List.Pairwise.sublist hs h.ids, Nat.le_trans hs.length_le h.len⟩

theorem rest_ids {L : List Nb} {o : Nb} (h : Good L) : ∀ a ∈ rest L o, a.id ≠ o.id := by
  intro a ha
  unfold rest at ha
  split at ha
  · rename_i hlt
    have hat : L[idx L o.id].id = o.id := idx_at (List.getElem?_eq_getElem hlt)
    have hids := h.ids
    unfold Ids at hids
    rw [List.eraseIdx_eq_take_drop_succ] at ha
    have e : L = L.take (idx L o.id) ++ (L[idx L o.id] :: L.drop (idx L o.id + 1)) := by
      rw [← List.drop_eq_getElem_cons hlt, List.take_append_drop]
    rw [e, List.pairwise_append, List.pairwise_cons] at hids
    rcases List.mem_append.1 ha with ha | ha
    · have := hids.2.2 a ha _ (List.mem_cons_self)
      rw [hat] at this; exact this
    · have := hids.2.1.1 a ha
      rw [hat] at this; exact fun e => this e.symm
  · rename_i hge
    have hall : ∀ b ∈ L, b.id ≠ o.id := by
      intro b hb
      obtain ⟨k, hk, e⟩ := List.mem_iff_getElem.1 hb
      refine idx_before (L := L) (k := k) (by omega) ?_
      rw [← e]; exact List.getElem?_eq_getElem hk
    split at ha
    · exact hall a (List.mem_of_mem_take ha)
    · exact hall a ha

theorem rest_len {L : List Nb} {o : Nb} (h : Good L) : (rest L o).length ≤ 5 := by
  have := h.len
  unfold rest
  split
  · rename_i hlt
    rw [List.length_eraseIdx_of_lt hlt]; omega
  · split
    · simp; omega
    · omega

theorem key_seq (b : Nb) (s : Int) : ({ b with seq := s } : Nb).key = b.key := rfl
theorem map_set {α : Type} (f : Nb → α) (L : List Nb) (k : Nat) (b b' : Nb) (h : L[k]? = some b) (hf : f b' = f b) : (L.set k b').map f = L.map f := by
  rw [List.map_set, hf]
  refine List.ext_getElem? fun j => ?_
  by_cases hj : j = k
  · subst hj
    have hl : j < L.length := by
      rcases Nat.lt_or_ge j L.length with h' | h'
      · exact h'
      · rw [List.getElem?_eq_none h'] at h; cases h
    rw [List.getElem?_set_self (by simpa using hl), List.getElem?_map, h]; rfl
  · rw [List.getElem?_set_ne (by omega)]

/-- THE LAW OF 'note'. -/
theorem noteL_good {L : List Nb} {o : Nb} (h : Good L) (ho : o.Ok) : Good (noteL L o) := by
  unfold noteL
  split
  · exact h
  · split
    · rename_i b hb
      split
      · exact h
      · split
        · have e1 := map_set Nb.key L _ b { b with seq := o.seq } hb rfl
          have e2 := map_set Nb.id L _ b { b with seq := o.seq } hb rfl
          refine ⟨?_, ?_, ?_, by simpa using h.len⟩
          · intro a ha
            rcases List.mem_or_eq_of_mem_set ha with ha | ha
            · exact h.ok a ha
            · subst ha
              have := h.ok b (List.mem_of_getElem? hb)
              exact ⟨this.id0, this.id7, this.pr0, this.pr3, this.h0, this.h3⟩
          · have := h.sorted
            unfold Sorted at this ⊢
            rw [← List.pairwise_map (f := Nb.key) (R := fun a b : Int => a < b)] at this ⊢
            rw [e1]; exact this
          · have := h.ids
            unfold Ids at this ⊢
            rw [← List.pairwise_map (f := Nb.id) (R := fun a b : Int => a ≠ b)] at this ⊢
            rw [e2]; exact this
        · exact ins_good (good_sub h (rest_sub L o)) ho (rest_ids h) (rest_len h)
    · exact ins_good (good_sub h (rest_sub L o)) ho (rest_ids h) (rest_len h)
end Go.Proofs.Ybulkawyi
