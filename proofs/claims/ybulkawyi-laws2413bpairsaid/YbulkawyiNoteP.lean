import Derived.Test.YbulkawyiDel
import Derived.Test.YbulkawyiPlain
import Derived.Deep.DeepCutAuto
import Derived.Deep.CutBlock
import Derived.Laws.StructEq
namespace Go.Proofs.Ybulkawyi
open Go.RowKit
set_option linter.unusedVariables false
attribute [local go_sem] run_store_float

/-- What 'note' leaves of the world. -/
structure Noted (N base : Nat) (w w' : World) (own : Option Nat) (L' : List Nb) : Prop where
  os : w'.os = w.os
  tape : w'.tape = w.tape
  output : w'.output = w.output
  size : w.heap.size ≤ w'.heap.size
  other : ∀ k, k < w.heap.size → k ≠ N → some k ≠ own → w'.heap[k]? = w.heap[k]?
  near : ∃ a c, w'.cell? ⟨N, 38, none⟩ = some (.slice a L'.length c) ∧ w'.ownsRow base 48 6 (.slice a L'.length c) L'.length (flat L')
  frozen : w'.frozen? ⟨N, 38, none⟩ = false
  rest : ∀ o, o ≠ 38 → w'.cell? ⟨N, o, none⟩ = w.cell? ⟨N, o, none⟩

/-- The cells of a message, as 'note' reads them. -/
structure IsMsg (w : World) (M : Nat) (lid lpr fid fpr : Int) (lst fst : Bool) (hops seq : Int) : Prop where
  m0 : w.cell? ⟨M, 0, none⟩ = some (.int .u64 lid)
  m1 : w.cell? ⟨M, 1, none⟩ = some (.float .f64 (pb lpr))
  m2 : w.cell? ⟨M, 2, none⟩ = some (.bool lst)
  m4 : w.cell? ⟨M, 4, none⟩ = some (.int .u64 seq)
  m5 : w.cell? ⟨M, 5, none⟩ = some (.int .i64 hops)
  m6 : w.cell? ⟨M, 6, none⟩ = some (.int .u64 fid)
  m7 : w.cell? ⟨M, 7, none⟩ = some (.float .f64 (pb fpr))
  m8 : w.cell? ⟨M, 8, none⟩ = some (.bool fst)
  lt : M < w.heap.size

theorem own_any {w w' : World} {base : Nat} {e : TypeId} {size n : Nat} {v : Value} {xs : List Value} (h : w.ownsRow base e size v n xs) (hb : ∀ g, v.ownBlock = some g → w'.heap[g]? = w.heap[g]?) : w'.ownsRow base e size v n xs := by
  obtain ⟨h1, h2⟩ := h
  refine ⟨h1, ?_⟩
  rcases h2 with h2 | ⟨g', cap', cur, e1, e2, e3, e4⟩
  · exact .inl h2
  · exact .inr ⟨g', cap', cur, e1, e2, by rw [hb g' (by rw [e1]; rfl)]; exact e3, e4⟩

theorem drewNN (w : World) (a b : Nat) : (w.drewN a).drewN b = w.drewN (a + b) := World.drewN_drewN w a b
theorem eqFloat (d : Nat) (p1 p2 : Nat) (w : World) : (Op.equalIn (d + 1) 34 (.float .f64 p1) (.float .f64 p2)).run Yba.prog w = .ok (FloatKind.f64.format.order p1 p2 == some .eq) w := by
  simp [Op.equalIn, run_underlying Yba.underlying34, Op.floatEq]
theorem eqCand (i1 i2 : Int) (p1 p2 : Nat) (s1 s2 : Bool) (w : World) :
    (binOp .eql 36 (.agg #[.int .u64 i1, .float .f64 p1, .bool s1]) (.agg #[.int .u64 i2, .float .f64 p2, .bool s2])).run Yba.prog w = .ok (.bool (i1 == i2 && (FloatKind.f64.format.order p1 p2 == some .eq) && s1 == s2)) w := by
  have u32 := Yba.underlying32
  have u34 := Yba.underlying34
  have u4 := Yba.underlying4
  have a3 := Yba.isAgg32
  have z3 := Yba.sizeOf32
  have a4 := Yba.isAgg34
  have z4 := Yba.sizeOf34
  have a5 := Yba.isAgg4
  have z5 := Yba.sizeOf4
  have hS : Yba.prog.underlying 36 = some (.struct (Yba.prog.fieldsOf 36)) := by kernel_rfl
  have hp : Yba.prog.stoodInHeld 36 = false := by kernel_rfl
  rw [run_eql_struct, show (10000 : Nat) = 9999 + 1 from rfl, run_equalIn_agg w 9999 36 _ _ hS hp]
  simp only [Program.fieldsOf, Yba.underlying36]
  have hf : (Op.equalIn 9999 34 (.float .f64 p1) (.float .f64 p2)).run Yba.prog w = .ok (FloatKind.f64.format.order p1 p2 == some .eq) w := eqFloat 9998 p1 p2 w
  go_simp
  by_cases h1 : i1 = i2 <;> by_cases h2 : FloatKind.f64.format.order p1 p2 = some .eq <;> cases s1 <;> cases s2 <;> simp [h1, h2]

/-- Where nothing old has turned. -/
theorem noted_same {N base : Nat} {w w' : World} {L : List Nb} {a : Option Addr} {c : Nat} (hN : N < w.heap.size) (hnr : w.cell? ⟨N, 38, none⟩ = some (.slice a L.length c)) (hfr : w.frozen? ⟨N, 38, none⟩ = false)
    (hown : w.ownsRow base 48 6 (.slice a L.length c) L.length (flat L)) (hb : Below w.heap.size w w') : Noted N base w w' (Value.slice a L.length c).ownBlock L :=
  ⟨hb.os, hb.tape, hb.output, hb.size, fun k hk _ _ => hb.block k hk, ⟨a, c, (hb.cell (p := ⟨N, 38, none⟩) hN).trans hnr, own_any hown (fun g hg => hb.block g (hown.lt g hg).2)⟩,
    (hb.frozen (p := ⟨N, 38, none⟩) hN).trans hfr, fun o _ => hb.cell (p := ⟨N, o, none⟩) hN⟩

/-- The cells of the k-th element. -/
theorem own_elem {w : World} {base n c : Nat} {a : Option Addr} {L : List Nb} {k : Nat} {b : Nb} (h : w.ownsRow base 48 6 (.slice a n c) n (flat L)) (hn : L.length = n) (hb : L[k]? = some b) :
    ∃ g, a = some ⟨g, 0, none⟩ ∧ g < w.heap.size ∧ k < n ∧ ∀ j, j < 6 → w.cell? ⟨g, k * 6 + j, none⟩ = b.cells[j]? := by
  have hk : k < L.length := by
    rcases Nat.lt_or_ge k L.length with h' | h'
    · exact h'
    · rw [List.getElem?_eq_none h'] at hb; cases hb
  rcases h.2 with ⟨h2, h3⟩ | ⟨g, cap', cur, e1, _⟩
  · omega
  · cases e1
    refine ⟨g, rfl, (h.lt _ rfl).2, by omega, fun j hj => ?_⟩
    rw [h.cellAt (k * 6 + j) (by omega)]; exact flat_get hb j hj

theorem flat_set {L : List Nb} {I : Nat} {b : Nb} (h : L[I]? = some b) (s : Int) : flat (L.set I { b with seq := s }) = (flat L).set (I * 6 + 4) (.int .u64 s) := by
  have hk : I < L.length := by
    rcases Nat.lt_or_ge I L.length with h' | h'
    · exact h'
    · rw [List.getElem?_eq_none h'] at h; cases h
  have hlen : (flat (L.set I { b with seq := s })).length = (flat L).length := by rw [flat_length, flat_length, List.length_set]
  refine List.ext_getElem? fun m => ?_
  by_cases hm : m < L.length * 6
  · obtain ⟨k, j, hj, rfl⟩ : ∃ k j, j < 6 ∧ m = k * 6 + j := ⟨m / 6, m % 6, Nat.mod_lt _ (by omega), by omega⟩
    have hkl : k < L.length := by omega
    by_cases hkI : k = I
    · subst hkI
      have e1 : (L.set k { b with seq := s })[k]? = some { b with seq := s } := by rw [List.getElem?_set_self hk]
      rw [flat_get e1 j hj]
      by_cases hj4 : j = 4
      · subst hj4
        rw [List.getElem?_set_self (by rw [flat_length]; omega)]; rfl
      · rw [List.getElem?_set_ne (by omega), flat_get h j hj]
        unfold Nb.cells
        match j, hj, hj4 with
        | 0, _, _ => rfl
        | 1, _, _ => rfl
        | 2, _, _ => rfl
        | 3, _, _ => rfl
        | 5, _, _ => rfl
    · have e1 : (L.set I { b with seq := s })[k]? = some L[k] := by rw [List.getElem?_set_ne (by omega)]; exact List.getElem?_eq_getElem hkl
      rw [flat_get e1 j hj, List.getElem?_set_ne (by omega), flat_get (List.getElem?_eq_getElem hkl) j hj]
  · rw [List.getElem?_eq_none (by rw [hlen, flat_length]; omega), List.getElem?_eq_none (by rw [List.length_set, flat_length]; omega)]

theorem noted_seq {N base n c g I : Nat} {w W : World} {L : List Nb} {b : Nb} {s : Int} (hb : Below w.heap.size w W) (hN : N < w.heap.size) (hnr : w.cell? ⟨N, 38, none⟩ = some (.slice (some ⟨g, 0, none⟩) n c)) (hfr : w.frozen? ⟨N, 38, none⟩ = false)
    (hown : w.ownsRow base 48 6 (.slice (some ⟨g, 0, none⟩) n c) n (flat L)) (hn : L.length = n) (hLb : L[I]? = some b) (hgN : g ≠ N) :
    Noted N base w (W.setCell ⟨g, I * 6 + 4, none⟩ (.int .u64 s)) (some g) (L.set I { b with seq := s }) := by
  have hown8 : W.ownsRow base 48 6 (.slice (some ⟨g, 0, none⟩) n c) n (flat L) := own_any hown (fun g' hg' => hb.block g' (hown.lt g' hg').2)
  have hst := (hown8.stored (I * 6 + 4) (.int .u64 s)).1
  rw [← flat_set hLb] at hst
  refine ⟨hb.os, hb.tape, hb.output, by simpa using hb.size, ?_, ?_, ?_, ?_⟩
  · intro k hk _ hk'
    rw [Below.heap_setCell _ _ _ _ (by intro e; exact hk' (by rw [e]))]
    exact hb.block k hk
  · refine ⟨some ⟨g, 0, none⟩, c, ?_, ?_⟩
    · rw [cset_block hgN, List.length_set, hn]; exact (hb.cell (p := ⟨N, 38, none⟩) hN).trans hnr
    · rw [List.length_set, hn]; exact hst
  · rw [fset]; exact (hb.frozen (p := ⟨N, 38, none⟩) hN).trans hfr
  · intro o _
    rw [cset_block hgN]; exact hb.cell (p := ⟨N, o, none⟩) hN

theorem cand_pb {a b : Int} (ha : -4 ≤ a) (ha' : a ≤ 3) (hb : -4 ≤ b) (hb' : b ≤ 3) : (FloatKind.f64.format.order (pb a) (pb b) == some .eq) = (a == b && a != -4) := by
  rw [ord_pb ha ha' hb hb']
  by_cases h : a = -4 ∨ b = -4
  · rw [ordP_nan h]
    rcases h with h | h
    · subst h; simp
    · subst h
      by_cases h2 : a = -4
      · subst h2; simp
      · simp [h2]
  · rcases Int.lt_trichotomy a b with h1 | h1 | h1
    · rw [ordP_lt (by omega) (by omega) h1]; simp; omega
    · subst h1; rw [ordP_eq (by omega) (by omega) rfl]; simp; omega
    · rw [ordP_gt (by omega) (by omega) h1]; simp; omega

theorem own_cut {w : World} {base g n c n' : Nat} {xs : List Value} (h : w.ownsRow base 48 6 (.slice (some ⟨g, 0, none⟩) n c) n xs) (hn : n' ≤ n) : w.ownsRow base 48 6 (.slice (some ⟨g, 0, none⟩) n' c) n' (xs.take (n' * 6)) := by
  have h1 := h.1
  refine ⟨by simp; omega, ?_⟩
  rcases h.2 with ⟨h2, _⟩ | ⟨g', cap', cur, e1, e2, e3, e4, e5, e6, e7⟩
  · cases h2
  · cases e1
    exact .inr ⟨g, c, cur, rfl, e2, e3, by omega, e5, e6, by rw [← e7, List.take_take]; congr 1; omega⟩

/-- What is left of the world when the new row is laid into the node. -/
theorem noted_ins {N base n c : Nat} {a : Option Addr} {w wx wy w6 : World} {L' : List Nb} {g cap : Nat} {o1 : Obj} {own' : Option Nat} (hN : N < w.heap.size) (hnr : ∃ v, w.cell? ⟨N, 38, none⟩ = some v) (hfr : w.frozen? ⟨N, 38, none⟩ = false)
    (hgN : ∀ g, (Value.slice a n c).ownBlock = some g → g ≠ N) (hgx : w.grownBy wx (Value.slice a n c).ownBlock) (hxy : Below wx.heap.size wx wy) (hw6 : (wy.alloc o1).grownBy w6 own') (hown' : own' = none ∨ own' = (Value.slice a n c).ownBlock)
    (ho6 : w6.ownsRow base 48 6 (.slice (some ⟨g, 0, none⟩) L'.length cap) L'.length (flat L')) (hNt : N < base ∨ ∀ cur fr, w.heap[N]? ≠ some (.cells cur 48 fr)) :
    (∃ v, w6.cell? ⟨N, 38, none⟩ = some v) ∧ w6.frozen? ⟨N, 38, none⟩ = false ∧ Noted N base w (w6.setCell ⟨N, 38, none⟩ (.slice (some ⟨g, 0, none⟩) L'.length cap)) (Value.slice a n c).ownBlock L' := by
  have hNo : some N ≠ (Value.slice a n c).ownBlock := fun e => hgN N e.symm rfl
  have hNo' : some N ≠ own' := by rcases hown' with h | h <;> rw [h]; simp; exact hNo
  have s1 := hgx.size
  have s2 := hxy.size
  have s3 : wy.heap.size + 1 ≤ w6.heap.size := by have := hw6.size; simpa using this
  have blk : ∀ k, k < w.heap.size → some k ≠ (Value.slice a n c).ownBlock → w6.heap[k]? = w.heap[k]? := by
    intro k hk hk'
    have hk'' : some k ≠ own' := by rcases hown' with h | h <;> rw [h]; simp; exact hk'
    rw [hw6.block k (by simp; omega) hk'', Below.heap_alloc _ _ _ (by omega), hxy.block k (by omega), hgx.block k hk hk']
  have bN := blk N hN hNo
  have hgw : g ≠ N := by
    intro e
    rcases ho6.2 with ⟨h2, _⟩ | ⟨g', cap', cur, e1, e2, e3, _⟩
    · cases h2
    · cases e1
      rcases hNt with hNt | hNt
      · omega
      · rw [e, bN] at e3
        exact hNt _ _ e3
  have cN : ∀ o, w6.cell? ⟨N, o, none⟩ = w.cell? ⟨N, o, none⟩ := fun o => World.cell?_of_block (w := w) bN
  have fN : w6.frozen? ⟨N, 38, none⟩ = false := (World.frozen?_of_block (w := w) bN).trans hfr
  obtain ⟨v, hv⟩ := hnr
  refine ⟨⟨v, (cN 38).trans hv⟩, fN, ⟨?_, ?_, ?_, ?_, ?_, ?_, ?_, ?_⟩⟩
  · exact hw6.os.trans (hxy.os.trans hgx.os)
  · exact hw6.tape.trans (hxy.tape.trans hgx.tape)
  · exact hw6.output.trans (hxy.output.trans hgx.output)
  · simp; omega
  · intro k hk hkN hk'
    rw [Below.heap_setCell _ _ _ _ (by simpa using hkN)]
    exact blk k hk hk'
  · refine ⟨some ⟨g, 0, none⟩, cap, cset_same ((cN 38).trans hv), ?_⟩
    refine own_any ho6 (fun g' hg' => ?_)
    cases hg'
    exact Below.heap_setCell _ _ _ _ (by simpa using hgw)
  · rw [fset]; exact fN
  · intro o ho
    rw [cset_off (by omega)]; exact cN o

theorem early_six {L : List Nb} {o b : Nb} (hl : L.length = 6) (hb : L[5]? = some b) : early L o = (b.id != o.id && !decide (o.key < b.key)) := by
  unfold early; rw [hb, hl]; rfl
theorem early_not {L : List Nb} {o : Nb} (hl : L.length ≠ 6) : early L o = false := by
  unfold early; rw [show (L.length == 6) = false from by simpa using hl]; rfl
theorem noteL_early {L : List Nb} {o : Nb} (h : early L o = true) : noteL L o = L := by unfold noteL; rw [h]; rfl

/-! ### the parts of note's body -/
def secondOf : Code → Code
  | .seq _ b => b
  | c => c
def firstOf : Code → Code
  | .seq a _ => a
  | c => c
end Go.Proofs.Ybulkawyi
