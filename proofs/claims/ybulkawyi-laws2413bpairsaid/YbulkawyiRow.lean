import Derived.Test.YbulkawyiBase
import Derived.Laws.CopyOwn
import Derived.Lib.Overlaps
import Derived.Lib.AppendZerosOnto
import Derived.Lib.AppendZeros
namespace Go.Proofs.Ybulkawyi
open Go.RowKit
set_option linter.unusedVariables false

/-! ### copy, clear and append of zeros at elements of 'size' cells -/
section
variable {P : Program}

theorem run_copyK (w : World) (dT sT ty elem : TypeId) (i : TypeInfo) (size n : Nat) (g o dLen dCap : Nat) (a : Addr) (sLen sCap : Nat) (cur : Array Value) (t : TypeId) (cs : List Value)
    (hu : P.underlying dT = some (.slice elem)) (hi : P.info? elem = some i) (hs : i.size = size)
    (hg : w.heap[g]? = some (.cells cur t (0, 0))) (hm : n = Nat.min sLen dLen) (hn : cs.length = n * size)
    (hsrc : ∀ j v, cs[j]? = some v → w.cell? (a.add j) = some v) (hfit : o + cs.length ≤ cur.size) (h1 : ∀ v ∈ cs, v.oneCell' = true) :
    (Builtin.copy_ #[dT, sT] ty #[.slice (some ⟨g, o, none⟩) dLen dCap, .slice (some a) sLen sCap]).run P w =
      .ok (goInt n) (w.setRow g (cur.toList.take o ++ cs ++ cur.toList.drop (o + cs.length)).toArray) := by
  have hl := run_loadCells_list (P := P) w a cs hsrc
  have hst := run_storeCells_at P g o t cs 0 cur w hg (by simpa using hfit) h1
  rw [hn] at hl
  simp [Builtin.copy_, run_underlying hu, Builtin.lenOf, Builtin.firstCells, sizeOf, typeInfo, hi, hs, ← hm, hl, hst]

/-- The same, the world behind it a letter. -/
theorem copied (w : World) (dT sT ty elem : TypeId) (i : TypeInfo) (size n : Nat) (g o dLen dCap : Nat) (a : Addr) (sLen sCap : Nat) (cur : Array Value) (t : TypeId) (cs : List Value)
    (hu : P.underlying dT = some (.slice elem)) (hi : P.info? elem = some i) (hs : i.size = size)
    (hg : w.heap[g]? = some (.cells cur t (0, 0))) (hm : n = Nat.min sLen dLen) (hn : cs.length = n * size)
    (hsrc : ∀ j v, cs[j]? = some v → w.cell? (a.add j) = some v) (hfit : o + cs.length ≤ cur.size) (h1 : ∀ v ∈ cs, v.oneCell' = true) :
    ∃ w2, (Builtin.copy_ #[dT, sT] ty #[.slice (some ⟨g, o, none⟩) dLen dCap, .slice (some a) sLen sCap]).run P w = .ok (goInt n) w2 ∧
      w2.heap[g]? = some (.cells (cur.toList.take o ++ cs ++ cur.toList.drop (o + cs.length)).toArray t (0, 0)) ∧ w.grownBy w2 (some g) :=
  ⟨_, run_copyK w dT sT ty elem i size n g o dLen dCap a sLen sCap cur t cs hu hi hs hg hm hn hsrc hfit h1, setRow_heap w g cur _ t _ hg,
    ⟨rfl, rfl, rfl, by simp [World.setRow], fun k _ hk => setRow_other w g k _ (fun e => hk (by rw [e]))⟩⟩

theorem wpList_copyK {w : World} {ops : Array Oper} {rest : List Oper} {o : Oper} {a : Act} {Q : Exit → Act → World → Prop} (hgd : o.guard = none) (d s : Operand) (dT sT : TypeId)
    (ho : o.op = .call { callee := .builtin .copy, args := #[d, s], argTypes := #[dT, sT] }) (elem : TypeId) (i : TypeInfo) (size n : Nat) (hu : P.underlying dT = some (.slice elem)) (hi : P.info? elem = some i) (hs : i.size = size)
    (g off dLen dCap : Nat) (ad : Addr) (sLen sCap : Nat) (hd : a.eval d = .slice (some ⟨g, off, none⟩) dLen dCap) (hsv : a.eval s = .slice (some ad) sLen sCap)
    (cur : Array Value) (t : TypeId) (hg : w.heap[g]? = some (.cells cur t (0, 0))) (cs : List Value) (hm : n = Nat.min sLen dLen) (hn : cs.length = n * size)
    (hsrc : ∀ j v, cs[j]? = some v → w.cell? (ad.add j) = some v) (hfit : off + cs.length ≤ cur.size) (h1 : ∀ v ∈ cs, v.oneCell' = true)
    (h : wpList P ops Q rest (a.put o.dst (goInt n)) (w.setRow g (cur.toList.take off ++ cs ++ cur.toList.drop (off + cs.length)).toArray)) : wpList P ops Q (o :: rest) a w := by
  refine wpList_plain hgd fun K hK => ?_
  have hrun := run_copyK (P := P) w dT sT o.type elem i size n g off dLen dCap ad sLen sCap cur t cs hu hi hs hg hm hn hsrc hfit h1
  unfold Oper.wp
  simp [execOp, ho, resolve, invoke, builtin, hd, hsv, hrun, Result.andThen]
  exact hK _ _ (by simpa using h)

theorem step_copyK {w : World} {ops : Array Oper} {o : Oper} {a : Act} {K : Act → World → Prop} {Q : Exit → Act → World → Prop} {E : Prop} (hgd : o.guard = none) (d s : Operand) (dT sT : TypeId)
    (ho : o.op = .call { callee := .builtin .copy, args := #[d, s], argTypes := #[dT, sT] }) (elem : TypeId) (i : TypeInfo) (size n : Nat) (hu : P.underlying dT = some (.slice elem)) (hi : P.info? elem = some i) (hs : i.size = size)
    (g off dLen dCap : Nat) (ad : Addr) (sLen sCap : Nat) (hd : a.eval d = .slice (some ⟨g, off, none⟩) dLen dCap) (hsv : a.eval s = .slice (some ad) sLen sCap)
    (cur : Array Value) (t : TypeId) (hg : w.heap[g]? = some (.cells cur t (0, 0))) (cs : List Value) (hm : n = Nat.min sLen dLen) (hn : cs.length = n * size)
    (hsrc : ∀ j v, cs[j]? = some v → w.cell? (ad.add j) = some v) (hfit : off + cs.length ≤ cur.size) (h1 : ∀ v ∈ cs, v.oneCell' = true)
    (h : K (a.put o.dst (goInt n)) (w.setRow g (cur.toList.take off ++ cs ++ cur.toList.drop (off + cs.length)).toArray)) :
    if Region.wanted o (yielded ops a.tmps) = true then Oper.wp P o a w K Q else E := by
  have hw : Region.wanted o (yielded ops a.tmps) = true := by simp [Region.wanted, hgd]
  rw [if_pos hw]
  have hrun := run_copyK (P := P) w dT sT o.type elem i size n g off dLen dCap ad sLen sCap cur t cs hu hi hs hg hm hn hsrc hfit h1
  unfold Oper.wp
  simp [execOp, ho, resolve, invoke, builtin, hd, hsv, hrun, Result.andThen]
  change K (a.put o.dst (goInt n)) _
  simpa using h

theorem step_copied {w : World} {ops : Array Oper} {o : Oper} {a : Act} {K : Act → World → Prop} {Q : Exit → Act → World → Prop} {E : Prop} (hgd : o.guard = none) (d s : Operand) (dT sT : TypeId)
    (ho : o.op = .call { callee := .builtin .copy, args := #[d, s], argTypes := #[dT, sT] }) (elem : TypeId) (i : TypeInfo) (size n : Nat) (hu : P.underlying dT = some (.slice elem)) (hi : P.info? elem = some i) (hs : i.size = size)
    (g off off' dLen dCap : Nat) (ad : Addr) (sLen sCap : Nat) (hd : a.eval d = .slice (some ⟨g, off', none⟩) dLen dCap) (hoff : off' = off) (hsv : a.eval s = .slice (some ad) sLen sCap)
    (cur : Array Value) (t : TypeId) (hg : w.heap[g]? = some (.cells cur t (0, 0))) (cs : List Value) (hm : n = Nat.min sLen dLen) (hn : cs.length = n * size)
    (hsrc : ∀ j v, cs[j]? = some v → w.cell? (ad.add j) = some v) (hfit : off + cs.length ≤ cur.size) (h1 : ∀ v ∈ cs, v.oneCell' = true)
    (h : ∀ w2, Hid (w2.heap[g]? = some (.cells (cur.toList.take off ++ cs ++ cur.toList.drop (off + cs.length)).toArray t (0, 0))) → w.grownBy w2 (some g) → K (a.put o.dst (goInt n)) w2) :
    if Region.wanted o (yielded ops a.tmps) = true then Oper.wp P o a w K Q else E := by
  subst hoff
  refine step_copyK hgd d s dT sT ho elem i size n hu hi hs g off' dLen dCap ad sLen sCap hd hsv cur t hg cs hm hn hsrc hfit h1 ?_
  exact h _ (setRow_heap w g cur _ t _ hg) ⟨rfl, rfl, rfl, by simp [World.setRow], fun k _ hk => setRow_other w g k _ (fun e => hk (by rw [e]))⟩

theorem run_clearK (w : World) (dT ty elem : TypeId) (i : TypeInfo) (z : Value) (g o n c : Nat) (cur : Array Value) (t : TypeId) (hu : P.underlying dT = some (.slice elem)) (hi : P.info? elem = some i) (hz : i.zero = some z)
    (hg : w.heap[g]? = some (.cells cur t (0, 0))) (hn : 0 < n) (hfit : o + (Builtin.zeroCells z.cells n).size ≤ cur.size) (h1 : ∀ v ∈ (Builtin.zeroCells z.cells n).toList, v.oneCell' = true) :
    (Builtin.clear_ #[dT] ty #[.slice (some ⟨g, o, none⟩) n c]).run P w =
      .ok (.tuple #[]) (w.setRow g (cur.toList.take o ++ (Builtin.zeroCells z.cells n).toList ++ cur.toList.drop (o + (Builtin.zeroCells z.cells n).size)).toArray) := by
  have hst := run_storeCells_at P g o t (Builtin.zeroCells z.cells n).toList 0 cur w hg (by simpa using hfit) h1
  obtain ⟨m, rfl⟩ : ∃ m, n = m + 1 := ⟨n - 1, by omega⟩
  simp [Builtin.clear_, run_underlying hu, zeroValue, typeInfo, hi, hz, hst]

theorem cleared (w : World) (dT ty elem : TypeId) (i : TypeInfo) (z : Value) (g o n c : Nat) (cur : Array Value) (t : TypeId) (hu : P.underlying dT = some (.slice elem)) (hi : P.info? elem = some i) (hz : i.zero = some z)
    (hg : w.heap[g]? = some (.cells cur t (0, 0))) (hn : 0 < n) (hfit : o + (Builtin.zeroCells z.cells n).size ≤ cur.size) (h1 : ∀ v ∈ (Builtin.zeroCells z.cells n).toList, v.oneCell' = true) :
    ∃ w2, (Builtin.clear_ #[dT] ty #[.slice (some ⟨g, o, none⟩) n c]).run P w = .ok (.tuple #[]) w2 ∧
      w2.heap[g]? = some (.cells (cur.toList.take o ++ (Builtin.zeroCells z.cells n).toList ++ cur.toList.drop (o + (Builtin.zeroCells z.cells n).size)).toArray t (0, 0)) ∧ w.grownBy w2 (some g) :=
  ⟨_, run_clearK w dT ty elem i z g o n c cur t hu hi hz hg hn hfit h1, setRow_heap w g cur _ t _ hg,
    ⟨rfl, rfl, rfl, by simp [World.setRow], fun k _ hk => setRow_other w g k _ (fun e => hk (by rw [e]))⟩⟩

/-- append within the capacity, onto a row that is known whole. -/
theorem run_append_row (w : World) (t ty e : TypeId) (i : TypeInfo) (size : Nat) (ht : P.underlying t = some (.slice e)) (hi : P.info? e = some i) (hs : i.size = size) (g n cap : Nat) (ad : Addr) (m c : Nat) (cur : Array Value) (tc : TypeId) (news : List Value)
    (hg : w.heap[g]? = some (.cells cur tc (0, 0))) (hl : news.length = m * size) (hnews : ∀ j u, news[j]? = some u → w.cell? (ad.add j) = some u) (h1 : ∀ u ∈ news, u.oneCell' = true) (hroom : n + m ≤ cap) (hfit : n * size + news.length ≤ cur.size) :
    (Builtin.append_ #[t, t] ty #[.slice (some ⟨g, 0, none⟩) n cap, .slice (some ad) m c]).run P w = .ok (.slice (some ⟨g, 0, none⟩) (n + m) cap) (w.setRow g (cur.toList.take (n * size) ++ news ++ cur.toList.drop (n * size + news.length)).toArray) := by
  subst hs
  have hfc := run_firstCells_some (P := P) w i.size m ad m c news hl hnews
  have hst := run_storeCells_at P g (n * i.size) tc news 0 cur w hg (by simpa using hfit) h1
  have hadd : (⟨g, 0, none⟩ : Addr).add (n * i.size) = ⟨g, n * i.size, none⟩ := by rw [Go.WideShapes.add_plain, Nat.zero_add]
  simp [Builtin.append_, run_underlying ht, sizeOf, typeInfo, hi, Builtin.lenOf, hroom, hfc, hadd, hst]

theorem step_appended {w : World} {ops : Array Oper} {o : Oper} {a : Act} {K : Act → World → Prop} {Q : Exit → Act → World → Prop} {E : Prop} (hgd : o.guard = none) (s x : Operand) (t : TypeId)
    (ho : o.op = .call { callee := .builtin .append, args := #[s, x], argTypes := #[t, t] }) (e : TypeId) (i : TypeInfo) (size : Nat) (ht : P.underlying t = some (.slice e)) (hi : P.info? e = some i) (hsz : i.size = size)
    (g n cap : Nat) (ad : Addr) (m c N : Nat) (hs : a.eval s = .slice (some ⟨g, 0, none⟩) n cap) (hx : a.eval x = .slice (some ad) m c) (hN : N = n + m)
    (cur : Array Value) (tc : TypeId) (hg : w.heap[g]? = some (.cells cur tc (0, 0))) (news : List Value) (hl : news.length = m * size)
    (hnews : ∀ j v, news[j]? = some v → w.cell? (ad.add j) = some v) (h1 : ∀ v ∈ news, v.oneCell' = true) (hroom : n + m ≤ cap) (hfit : n * size + news.length ≤ cur.size)
    (h : ∀ w2, Hid (w2.heap[g]? = some (.cells (cur.toList.take (n * size) ++ news ++ cur.toList.drop (n * size + news.length)).toArray tc (0, 0))) → w.grownBy w2 (some g) → K (a.put o.dst (.slice (some ⟨g, 0, none⟩) N cap)) w2) :
    if Region.wanted o (yielded ops a.tmps) = true then Oper.wp P o a w K Q else E := by
  subst hN
  have hw : Region.wanted o (yielded ops a.tmps) = true := by simp [Region.wanted, hgd]
  rw [if_pos hw]
  have hrun := run_append_row (P := P) w t o.type e i size ht hi hsz g n cap ad m c cur tc news hg hl hnews h1 hroom hfit
  unfold Oper.wp
  simp [execOp, ho, resolve, invoke, builtin, hs, hx, hrun, Result.andThen]
  change K (a.put o.dst (.slice (some ⟨g, 0, none⟩) (n + m) cap)) _
  have := h _ (setRow_heap w g cur _ tc _ hg) ⟨rfl, rfl, rfl, by simp [World.setRow], fun k _ hk => setRow_other w g k _ (fun e => hk (by rw [e]))⟩
  simpa using this

theorem wpList_clearK {w : World} {ops : Array Oper} {rest : List Oper} {o : Oper} {a : Act} {Q : Exit → Act → World → Prop} (hgd : o.guard = none) (d : Operand) (dT : TypeId)
    (ho : o.op = .call { callee := .builtin .clear, args := #[d], argTypes := #[dT] }) (elem : TypeId) (i : TypeInfo) (z : Value) (hu : P.underlying dT = some (.slice elem)) (hi : P.info? elem = some i) (hz : i.zero = some z)
    (g off n c : Nat) (hd : a.eval d = .slice (some ⟨g, off, none⟩) n c)
    (cur : Array Value) (t : TypeId) (hg : w.heap[g]? = some (.cells cur t (0, 0))) (hn : 0 < n) (hfit : off + (Builtin.zeroCells z.cells n).size ≤ cur.size) (h1 : ∀ v ∈ (Builtin.zeroCells z.cells n).toList, v.oneCell' = true)
    (h : wpList P ops Q rest (a.put o.dst (.tuple #[])) (w.setRow g (cur.toList.take off ++ (Builtin.zeroCells z.cells n).toList ++ cur.toList.drop (off + (Builtin.zeroCells z.cells n).size)).toArray)) : wpList P ops Q (o :: rest) a w := by
  refine wpList_plain hgd fun K hK => ?_
  have hrun := run_clearK (P := P) w dT o.type elem i z g off n c cur t hu hi hz hg hn hfit h1
  unfold Oper.wp
  simp [execOp, ho, resolve, invoke, builtin, hd, hrun, Result.andThen]
  exact hK _ _ (by simpa using h)

/-- append(s[:i], make(S, k)...) where it must grow: a new row: the old cells, then zeros. -/
theorem wpList_append_zeros {w : World} {ops : Array Oper} {rest : List Oper} {o : Oper} {a : Act} {Q : Exit → Act → World → Prop} (hgd : o.guard = none) (s x : Operand) (t tn : TypeId)
    (ho : o.op = .call { callee := .builtin .append, args := #[s, x], argTypes := #[t, tn] }) (e : TypeId) (i : TypeInfo) (z : Value) (size bytes : Nat) (kq kn : IntKind)
    (ht : P.underlying t = some (.slice e)) (htn : P.underlying tn = some (.int kn)) (hi : P.info? e = some i) (hz : i.zero = some z) (hsize : i.size = size) (hby : i.bytes = bytes) (hzs : z.cells.size = size) (hsz : 0 < size)
    (b : Addr) (sLen sCap k N : Nat) (hN : N = sLen + k) (L : Int) (olds : List Value) (hs : a.eval s = .slice (some b) sLen sCap) (hx : a.eval x = .int kq L) (hL : L = (k : Int)) (hlo : olds.length = sLen * size) (holds : ∀ j u, olds[j]? = some u → w.cell? (b.add j) = some u)
    (h0 : 0 < k) (hg : sCap < sLen + k) (h63 : sLen + k ≤ maxLen) (hbytes : (sLen + k) * bytes ≤ 140737488355328)
    (h : ∀ cap' cur w', sLen + k ≤ cap' → cap' ≤ maxLen → w'.heap[w.heap.size]? = some (.cells cur e (0, 0)) → cur.size = cap' * size → cur.toList.take (sLen * size) = olds → w.grownBy w' none → w.heap.size < w'.heap.size →
      wpList P ops Q rest (a.put o.dst (.slice (some ⟨w.heap.size, 0, none⟩) N cap')) w') : wpList P ops Q (o :: rest) a w := by
  subst hsize hby hL hN
  have hsmall : sLen + k ≤ 9223372036854775807 := by simp only [maxLen] at h63; omega
  have hge := grownCap_ge w (sLen + k) sCap e
  have hcm : grownCap w (sLen + k) sCap e ≤ maxLen := grownCap_le_maxLen w (sLen + k) sCap e h63
  have hkb : k * i.bytes ≤ 281474976710656 := by
    have : k * i.bytes ≤ (sLen + k) * i.bytes := Nat.mul_le_mul_right _ (by omega)
    omega
  have hr := Lib.run_append_grow_zeros (P := P) w t tn o.type e i z kq kn ht htn hi hz (some b) sLen sCap olds (run_firstCells_some (P := P) w.drew i.size sLen b sLen sCap olds hlo (by simpa using holds)) k h0 hsz hg (by omega) hkb (growslice_fits hg hbytes)
  refine Lib.wpList_append_run _ hgd s x t tn ho _ _ hs hx _ _ hr ?_
  refine h _ _ _ hge hcm (heap_alloc_new w.drew _) ?_ ?_ ⟨rfl, rfl, rfl, by simp, fun j hj _ => Below.heap_alloc w.drew _ j hj⟩ (by simp)
  · simp only [Array.size_append, List.size_toArray, size_zeroCells, hzs, hlo, ← Nat.add_mul]
    congr 1
    omega
  · simp only [Array.toList_append, List.append_assoc]
    rw [← hlo]
    exact List.take_left
end

/-- Two splices make an insertion: into a new row; and in place. -/
theorem ins_new {α : Type} (cur news ys : List α) (a : Nat) (h : a + news.length + ys.length ≤ cur.length) :
    (((cur.take a ++ news ++ cur.drop (a + news.length)).take (a + news.length) ++ ys ++ (cur.take a ++ news ++ cur.drop (a + news.length)).drop (a + news.length + ys.length)).take (a + news.length + ys.length) = cur.take a ++ news ++ ys) := by
  have e1 : (cur.take a ++ news).length = a + news.length := by simp; omega
  have e2 : (cur.take a ++ news ++ cur.drop (a + news.length)).take (a + news.length) = cur.take a ++ news := by
    rw [← e1]; exact List.take_left
  rw [e2]
  have e3 : (cur.take a ++ news ++ ys).length = a + news.length + ys.length := by simp; omega
  rw [← e3]
  exact List.take_left
theorem ins_new_len {α : Type} (cur news ys : List α) (a : Nat) (h : a + news.length + ys.length ≤ cur.length) :
    ((cur.take a ++ news ++ cur.drop (a + news.length)).take (a + news.length) ++ ys ++ (cur.take a ++ news ++ cur.drop (a + news.length)).drop (a + news.length + ys.length)).length = cur.length := by
  simp; omega
theorem ins_old {α : Type} (cur news ys : List α) (a : Nat) (h : a + news.length + ys.length ≤ cur.length) :
    (((cur.take (a + news.length) ++ ys ++ cur.drop (a + news.length + ys.length)).take a ++ news ++ (cur.take (a + news.length) ++ ys ++ cur.drop (a + news.length + ys.length)).drop (a + news.length)).take (a + news.length + ys.length) = cur.take a ++ news ++ ys) := by
  have e0 : (cur.take (a + news.length) ++ ys ++ cur.drop (a + news.length + ys.length)).take a = cur.take a := by
    rw [List.append_assoc, List.take_append_of_le_length (by simp; omega), List.take_take]
    congr 1; omega
  have e1 : (cur.take (a + news.length) ++ ys ++ cur.drop (a + news.length + ys.length)).drop (a + news.length) = ys ++ cur.drop (a + news.length + ys.length) := by
    have e : (cur.take (a + news.length)).length = a + news.length := by simp; omega
    rw [List.append_assoc]
    generalize cur.take (a + news.length) = u at e
    rw [← e, List.drop_left]
  rw [e0, e1, ← List.append_assoc]
  have e3 : (cur.take a ++ news ++ ys).length = a + news.length + ys.length := by simp; omega
  rw [← e3]
  exact List.take_left
theorem ins_old_len {α : Type} (cur news ys : List α) (a : Nat) (h : a + news.length + ys.length ≤ cur.length) :
    ((cur.take (a + news.length) ++ ys ++ cur.drop (a + news.length + ys.length)).take a ++ news ++ (cur.take (a + news.length) ++ ys ++ cur.drop (a + news.length + ys.length)).drop (a + news.length)).length = cur.length := by
  simp; omega

/-- A row laid anew: what is below stays. -/
theorem setRow_grown (w : World) (g : Nat) (cs : Array Value) : w.grownBy (w.setRow g cs) (some g) :=
  ⟨rfl, rfl, rfl, by simp [World.setRow], fun k _ hk => setRow_other w g k cs (fun e => hk (by rw [e]))⟩
end Go.Proofs.Ybulkawyi
