import Derived.Test.YbulkawyiSendC
import Derived.Test.YbulkawyiFloat
namespace Go.Proofs.Ybulkawyi
open Go.RowKit
attribute [local go_sem] run_store_float

theorem info63 : (Yba.prog.info? 63).map (fun i => (i.zero, i.size, i.bytes)) = some (some (.slice none 0 0), 1, 24) := by kernel_rfl
theorem info3 : (Yba.prog.info? 3).map (fun i => (i.zero, i.size, i.bytes)) = some (some (.int .i64 0), 1, 8) := by kernel_rfl
theorem info33 : (Yba.prog.info? 33).map (fun i => (i.zero, i.size, i.bytes)) = some (some (.float .f64 0), 1, 8) := by kernel_rfl

/-- A row that is owned stays owned where nothing below R has turned. -/
theorem own_below {w w' : World} {R base : Nat} {e : TypeId} {size n cap g : Nat} {xs : List Value} (h : w.ownsRow base e size (.slice (some ⟨g, 0, none⟩) n cap) n xs) (hg : g < R) (hb : Below R w w') :
    w'.ownsRow base e size (.slice (some ⟨g, 0, none⟩) n cap) n xs := by
  obtain ⟨h1, h2⟩ := h
  refine ⟨h1, ?_⟩
  rcases h2 with ⟨h2, _⟩ | ⟨g', cap', cur, e1, e2, e3, e4⟩
  · cases h2
  · cases e1
    exact .inr ⟨g, cap, cur, rfl, e2, by rw [hb.block g hg]; exact e3, e4⟩

/-- What the list of rows holds after k rounds: rows of the wanted lengths, then nil. -/
def AdjTo (zs : List Int) (K k : Nat) (xs : List Value) : Prop :=
  xs.length = K ∧ (∀ j, j < k → ∃ b, xs[j]? = some (.slice (some ⟨b, 0, none⟩) (zs.getD j 0 % 8).toNat (zs.getD j 0 % 8).toNat)) ∧ ∀ j, k ≤ j → j < K → xs[j]? = some (.slice none 0 0)

theorem AdjTo.start (zs : List Int) (K : Nat) : AdjTo zs K 0 (List.replicate K (.slice none 0 0)) :=
  ⟨by simp, fun j h => by omega, fun j _ h => by simp [h]⟩

theorem AdjTo.step {zs : List Int} {K k : Nat} {xs : List Value} (h : AdjTo zs K k xs) (hk : k < K) (b : Nat) :
    AdjTo zs K (k + 1) (xs.set k (.slice (some ⟨b, 0, none⟩) (zs.getD k 0 % 8).toNat (zs.getD k 0 % 8).toNat)) := by
  obtain ⟨h1, h2, h3⟩ := h
  refine ⟨by simpa using h1, fun j hj => ?_, fun j hj hK => ?_⟩
  · by_cases e : j = k
    · subst e
      exact ⟨b, by simp [h1, hk]⟩
    · rw [List.getElem?_set_ne (by omega)]
      exact h2 j (by omega)
  · rw [List.getElem?_set_ne (by omega)]
    exact h3 j (by omega) hK

/-- One round's store of a row. -/
theorem adj_round {w wr w0 w1 : World} {B K R : Nat} {xs : List Value} (hown : wr.ownsRow B 63 1 (.slice (some ⟨B, 0, none⟩) K K) K xs) (hb : Below B w wr)
    (hB : B < wr.heap.size) (hg : wr.grownBy w0 none) (hR : R = wr.heap.size) (hb0 : Below R w0 w1) :
    w1.ownsRow B 63 1 (.slice (some ⟨B, 0, none⟩) K K) K xs ∧ Below B w w1 ∧ B < w1.heap.size := by
  have hbR : Below R wr w0 := ⟨hg.os, hg.tape, hg.output, hg.size, fun j hj => hg.block j (by omega) (by simp)⟩
  have hb1 := hbR.trans hb0
  exact ⟨own_below hown (by omega) hb1, hb.trans (hb1.mono (by omega)), by have := hb1.size; omega⟩

theorem adj_pick {zs : List Int} {k f : Nat} {xs : List Value} (h : AdjTo zs (k + 1) k xs) (hf : f < k + 1) :
    (∃ b d, 0 < d ∧ xs[f]? = some (.slice (some ⟨b, 0, none⟩) d d)) ∨ ∃ ra c, xs[f]? = some (.slice ra 0 c) := by
  by_cases hk : f < k
  · obtain ⟨b, hb⟩ := h.2.1 f hk
    by_cases hd : 0 < (zs.getD f 0 % 8).toNat
    · exact .inl ⟨b, _, hd, hb⟩
    · refine .inr ⟨some ⟨b, 0, none⟩, 0, ?_⟩
      rw [hb, show (zs.getD f 0 % 8).toNat = 0 from by omega]
  · exact .inr ⟨none, 0, h.2.2 f (by omega) hf⟩

/-- The three structs that the law lays ahead of the broadcast. -/
def tal (s : Int) : Array Value :=
  #[.slice none 0 0, .pointer none, .int .u64 s, .int .u64 0, .int .u64 0, .int .u64 0, .int .u64 0, .int .u64 0, .float .f64 0, .slice none 0 0, .slice none 0 0, .int .u64 0, .float .f64 0, .slice none 0 0, .slice none 0 0, .slice none 0 0,
    .slice none 0 0, .int .i64 0, .slice none 0 0, .slice none 0 0, .slice none 0 0, .slice none 0 0, .int .u64 0, .slice none 0 0, .float .f64 0, .float .f64 0, .int .u64 0, .slice none 0 0, .slice none 0 0, .slice none 0 0, .slice none 0 0,
    .slice none 0 0, .slice none 0 0, .int .i64 0, .slice none 0 0, .slice none 0 0, .slice none 0 0, .slice none 0 0, .float .f64 0, .slice none 0 0]
def msg7 : Array Value :=
  #[.int .u64 0, .float .f64 0, .bool false, .int .u64 0, .int .u64 7, .int .i64 0, .int .u64 0, .float .f64 0, .bool false, .slice none 0 0, .slice none 0 0, .bool false]
def net (dl A S K T : Nat) : Array Value :=
  #[.float .f64 0, .int .i64 0, .float .f64 dl, .float .f64 0, .float .f64 0, .float .f64 0, .float .f64 0, .int .u64 0, .slice none 0 0, .slice none 0 0, .slice none 0 0, .slice none 0 0, .int .i64 0, .float .f64 0,
    .slice none 0 0, .slice (some ⟨A, 0, none⟩) K K, .slice none 0 0, .slice none 0 0, .slice (some ⟨S, 0, none⟩) K K, .int .u64 0, .slice none 0 0, .int .i64 0, .slice none 0 0, .slice none 0 0, .pointer none, .pointer (some ⟨T, 0, none⟩)]
def laid (wr : World) (s : Int) (dl A S K : Nat) : World :=
  ((wr.alloc (.cells (tal s) 105)).alloc (.cells msg7 40)).alloc (.cells (net dl A S K wr.heap.size) 121)

theorem laid_size (wr : World) (s : Int) (dl A S K : Nat) : (laid wr s dl A S K).heap.size = wr.heap.size + 1 + 1 + 1 := by simp [laid]
theorem laid_old (wr : World) (s : Int) (dl A S K b o : Nat) (h : b < wr.heap.size) : (laid wr s dl A S K).cell? ⟨b, o, none⟩ = wr.cell? ⟨b, o, none⟩ := by
  unfold laid
  rw [calloc (by simp; omega), calloc (by simp; omega), calloc h]
theorem laid_oldf (wr : World) (s : Int) (dl A S K b o : Nat) (h : b < wr.heap.size) : (laid wr s dl A S K).frozen? ⟨b, o, none⟩ = wr.frozen? ⟨b, o, none⟩ := by
  unfold laid
  rw [falloc (by simp; omega), falloc (by simp; omega), falloc h]
theorem laid_tal (wr : World) (s : Int) (dl A S K o : Nat) : (laid wr s dl A S K).cell? ⟨wr.heap.size, o, none⟩ = (tal s)[o]? := by
  unfold laid
  rw [calloc (by simp; omega), calloc (by simp), World.cell?_alloc_new]
theorem laid_talf (wr : World) (s : Int) (dl A S K o : Nat) : (laid wr s dl A S K).frozen? ⟨wr.heap.size, o, none⟩ = false := by
  unfold laid
  rw [falloc (by simp; omega), falloc (by simp), World.frozen?_alloc_at _ _ _ _ rfl]
theorem laid_net (wr : World) (s : Int) (dl A S K o : Nat) : (laid wr s dl A S K).cell? ⟨wr.heap.size + 1 + 1, o, none⟩ = (net dl A S K wr.heap.size)[o]? := by
  unfold laid
  exact World.cell?_alloc_at _ _ _ _ (by simp)
theorem laid_netf (wr : World) (s : Int) (dl A S K o : Nat) : (laid wr s dl A S K).frozen? ⟨wr.heap.size + 1 + 1, o, none⟩ = false := by
  unfold laid
  exact World.frozen?_alloc_at _ _ _ _ (by simp)
theorem laid_below (wr : World) (s : Int) (dl A S K B : Nat) (h : B ≤ wr.heap.size) : Below B wr (laid wr s dl A S K) := by
  unfold laid
  exact (((Below.refl B wr).alloc h _).alloc (by simp; omega) _).alloc (by simp; omega) _

/-- What the law sees behind the broadcast. -/
structure Seen (w wr w4 : World) (T A S f K : Nat) (s : Int) (x : Value) : Prop where
  sent : w4.cell? ⟨T, 2, none⟩ = some (.int .u64 (IntKind.wrap .u64 (s + 1)))
  adj : ∀ j, w4.cell? ⟨A, j, none⟩ = wr.cell? ⟨A, j, none⟩
  mark : w4.cell? ⟨S, f, none⟩ = some x
  rest : ∀ j, j ≠ f → w4.cell? ⟨S, j, none⟩ = wr.cell? ⟨S, j, none⟩
  below : Below w.heap.size w w4

theorem seen_has {w wr w4 : World} {s : Int} {dl A S K f r q : Nat} {v : Value} {ev : List Value} {x0 : Value} (hA : A < wr.heap.size) (hS : S < wr.heap.size) (hAS : A ≠ S) (hw : w.heap.size ≤ A) (hw' : w.heap.size ≤ S) (hb : Below w.heap.size w wr) (hx : wr.cell? ⟨S, f, none⟩ = some x0)
    (HP : Pushed (wr.heap.size + 1 + 1) ((((laid wr s dl A S K).setCell ⟨wr.heap.size, 2, none⟩ (.int .u64 (IntKind.wrap .u64 (s + 1)))).setCell ⟨S, f, none⟩ (.float .f64 r)).drewN q) w4 v ev) :
    Seen w wr w4 wr.heap.size A S f K s (.float .f64 r) ∧ w4.cell? ⟨wr.heap.size + 1 + 1, 19 + 2, none⟩ = some (.int .i64 0) ∧ w4.cell? ⟨wr.heap.size + 1 + 1, 19 + 3, none⟩ = some (.slice none 0 0) := by
  have lo : ∀ b o, b < wr.heap.size + 1 + 1 → w4.cell? ⟨b, o, none⟩ = (((laid wr s dl A S K).setCell ⟨wr.heap.size, 2, none⟩ (.int .u64 (IntKind.wrap .u64 (s + 1)))).setCell ⟨S, f, none⟩ (.float .f64 r)).cell? ⟨b, o, none⟩ := fun b o h => (HP.below.cell (p := ⟨b, o, none⟩) h).trans cdrew
  refine ⟨⟨?_, ?_, ?_, ?_, ?_⟩, ?_, ?_⟩
  · rw [lo _ _ (by omega), cset_block (by omega), cset_same (u := .int .u64 s) (by rw [laid_tal]; rfl)]
  · intro j
    rw [lo _ _ (by omega), cset_block (by omega), cset_block (by omega), laid_old _ _ _ _ _ _ _ _ hA]
  · rw [lo _ _ (by omega), cset_same (u := x0)]
    rw [cset_block (by omega), laid_old _ _ _ _ _ _ _ _ hS]
    exact hx
  · intro j hj
    rw [lo _ _ (by omega), cset_off (by omega), cset_block (by omega), laid_old _ _ _ _ _ _ _ _ hS]
  · have b1 := laid_below wr s dl A S K w.heap.size (by omega)
    have b2 : Below w.heap.size wr ((((laid wr s dl A S K).setCell ⟨wr.heap.size, 2, none⟩ (.int .u64 (IntKind.wrap .u64 (s + 1)))).setCell ⟨S, f, none⟩ (.float .f64 r)).drewN q) := bdrew ((b1.setCell (by simp; omega) _).setCell (by simp; omega) _) q
    exact hb.trans (b2.trans (HP.below.mono (by omega)))
  · rw [HP.other _ (by omega) (by omega), cdrew, cset_block (by omega), cset_block (by omega), laid_net]; rfl
  · rw [HP.other _ (by omega) (by omega), cdrew, cset_block (by omega), cset_block (by omega), laid_net]; rfl

theorem seen_none {w wr : World} {s : Int} {dl A S K f : Nat} {x0 : Value} (hA : A < wr.heap.size) (hS : S < wr.heap.size) (hw : w.heap.size ≤ A) (hb : Below w.heap.size w wr) (hx : wr.cell? ⟨S, f, none⟩ = some x0) :
    Seen w wr ((laid wr s dl A S K).setCell ⟨wr.heap.size, 2, none⟩ (.int .u64 (IntKind.wrap .u64 (s + 1)))) wr.heap.size A S f K s x0 ∧
      (∀ o, ((laid wr s dl A S K).setCell ⟨wr.heap.size, 2, none⟩ (.int .u64 (IntKind.wrap .u64 (s + 1)))).cell? ⟨wr.heap.size + 1 + 1, o, none⟩ = (net dl A S K wr.heap.size)[o]?) := by
  refine ⟨⟨?_, ?_, ?_, ?_, ?_⟩, ?_⟩
  · exact cset_same (u := .int .u64 s) (by rw [laid_tal]; rfl)
  · intro j
    rw [cset_block (by omega), laid_old _ _ _ _ _ _ _ _ hA]
  · rw [cset_block (by omega), laid_old _ _ _ _ _ _ _ _ hS]; exact hx
  · intro j _
    rw [cset_block (by omega), laid_old _ _ _ _ _ _ _ _ hS]
  · exact hb.trans ((laid_below wr s dl A S K w.heap.size (by omega)).setCell (by simp; omega) _)
  · intro o
    rw [cset_block (by omega), laid_net]

/-- The broadcast in the world that the law has laid, with neighbours. -/
theorem bc_has (w wr : World) (s : Int) (at_ dl A S K f d r x0 : Nat) (rb : Nat) (hf : f < K) (hd : 0 < d) (hr : floatBits .add .f64 at_ dl = some r)
    (hA : A < wr.heap.size) (hS : S < wr.heap.size) (hAS : A ≠ S) (hw : w.heap.size ≤ A) (hw' : w.heap.size ≤ S) (hb : Below w.heap.size w wr)
    (ha : wr.cell? ⟨A, f, none⟩ = some (.slice (some ⟨rb, 0, none⟩) d d)) (hx : wr.cell? ⟨S, f, none⟩ = some (.float .f64 x0)) (hfx : wr.frozen? ⟨S, f, none⟩ = false) :
    Calls Yba.prog 16 #[.pointer (some ⟨wr.heap.size + 1 + 1, 0, none⟩), .int .i64 (f : Int), .float .f64 at_, .pointer (some ⟨wr.heap.size + 1, 0, none⟩)] (laid wr s dl A S K) fun e w4 => e = .returned (.tuple #[]) ∧
      Seen w wr w4 wr.heap.size A S f K s (.float .f64 r) ∧ w4.cell? ⟨wr.heap.size + 1 + 1, 19, none⟩ = some (.int .u64 1) ∧ w4.cell? ⟨wr.heap.size + 1 + 1, 19 + 2, none⟩ = some (.int .i64 0) ∧ w4.cell? ⟨wr.heap.size + 1 + 1, 19 + 3, none⟩ = some (.slice none 0 0) ∧
      ∃ g cap, w4.cell? ⟨wr.heap.size + 1 + 1, 19 + 1, none⟩ = some (.slice (some ⟨g, 0, none⟩) 1 cap) ∧ ∀ j, j < 7 → w4.cell? ⟨g, j, none⟩ = (evl r at_ (some ⟨rb, 0, none⟩) d d (some ⟨wr.heap.size + 1, 0, none⟩) (IntKind.wrap .i32 f))[j]? := by
  refine (broadcast_has (wr.heap.size + 1 + 1) wr.heap.size A S K f d d ⟨rb, 0, none⟩ s at_ dl r x0 (some ⟨wr.heap.size + 1, 0, none⟩) (laid wr s dl A S K) hf hd hr (by rw [laid_size]; omega)
    (by rw [laid_net]; rfl) (by rw [laid_tal]; rfl) (laid_talf _ _ _ _ _ _ _) (by rw [laid_net]; rfl) (by rw [laid_old _ _ _ _ _ _ _ _ hA]; exact ha) (by rw [laid_net]; rfl) (by rw [laid_old _ _ _ _ _ _ _ _ hS]; exact hx)
    (by rw [laid_oldf _ _ _ _ _ _ _ _ hS]; exact hfx) (by rw [laid_net]; rfl) (by rw [laid_net]; rfl) (by rw [laid_net]; rfl) (by rw [laid_net]; rfl) (laid_netf _ _ _ _ _ _ _) (laid_netf _ _ _ _ _ _ _)
    (by omega) (by omega) (by omega) (by omega) (by omega)).mono ?_
  rintro e w4 ⟨rfl, q, g, cap, HP⟩
  obtain ⟨h1, h2, h3⟩ := seen_has hA hS hAS hw hw' hb hx HP
  refine ⟨rfl, h1, HP.seq, h2, h3, g, cap, HP.line, fun j hj => ?_⟩
  exact HP.own.cellAt j (by omega)

/-- And without. -/
theorem bc_none (w wr : World) (s : Int) (at_ dl A S K f : Nat) (x0 : Value) (ra : Option Addr) (rc : Nat) (hf : f < K)
    (hA : A < wr.heap.size) (hS : S < wr.heap.size) (hw : w.heap.size ≤ A) (hb : Below w.heap.size w wr)
    (ha : wr.cell? ⟨A, f, none⟩ = some (.slice ra 0 rc)) (hx : wr.cell? ⟨S, f, none⟩ = some x0) :
    Calls Yba.prog 16 #[.pointer (some ⟨wr.heap.size + 1 + 1, 0, none⟩), .int .i64 (f : Int), .float .f64 at_, .pointer (some ⟨wr.heap.size + 1, 0, none⟩)] (laid wr s dl A S K) fun e w4 => e = .returned (.tuple #[]) ∧
      Seen w wr w4 wr.heap.size A S f K s x0 ∧ w4.cell? ⟨wr.heap.size + 1 + 1, 19, none⟩ = some (.int .u64 0) ∧ w4.cell? ⟨wr.heap.size + 1 + 1, 19 + 1, none⟩ = some (.slice none 0 0) ∧ w4.cell? ⟨wr.heap.size + 1 + 1, 19 + 3, none⟩ = some (.slice none 0 0) := by
  refine (broadcast_none (wr.heap.size + 1 + 1) wr.heap.size A K f ra rc s at_ (some ⟨wr.heap.size + 1, 0, none⟩) (laid wr s dl A S K) hf
    (by rw [laid_net]; rfl) (by rw [laid_tal]; rfl) (laid_talf _ _ _ _ _ _ _) (by rw [laid_net]; rfl) (by rw [laid_old _ _ _ _ _ _ _ _ hA]; exact ha) (by omega) (by omega)).mono ?_
  rintro e w4 ⟨rfl, rfl⟩
  obtain ⟨h1, h2⟩ := seen_none (s := s) (dl := dl) (K := K) hA hS hw hb hx
  exact ⟨rfl, h1, h2 _, h2 _, h2 _⟩

end Go.Proofs.Ybulkawyi
