import Derived.Test.YbulkawyiNote
namespace Go.Proofs.Ybulkawyi
open Go.RowKit
set_option linter.unusedVariables false
attribute [local go_sem] run_store_float

/-- One message of the script in memory. -/
structure InAt (w : World) (b o : Nat) (l f lp fp : Int) (ls fs : Bool) (h s : Int) : Prop where
  c0 : w.cell? ⟨b, o, none⟩ = some (.int .u8 l)
  c1 : w.cell? ⟨b, o + 1, none⟩ = some (.int .u8 f)
  c2 : w.cell? ⟨b, o + 2, none⟩ = some (.int .i8 lp)
  c3 : w.cell? ⟨b, o + 3, none⟩ = some (.int .i8 fp)
  c4 : w.cell? ⟨b, o + 4, none⟩ = some (.bool ls)
  c5 : w.cell? ⟨b, o + 5, none⟩ = some (.bool fs)
  c6 : w.cell? ⟨b, o + 6, none⟩ = some (.int .i8 h)
  c7 : w.cell? ⟨b, o + 7, none⟩ = some (.int .u8 s)
  r : (0 ≤ l ∧ l ≤ 255) ∧ (0 ≤ f ∧ f ≤ 255) ∧ (-128 ≤ lp ∧ lp ≤ 127) ∧ (-128 ≤ fp ∧ fp ≤ 127) ∧ (-128 ≤ h ∧ h ≤ 127) ∧ (0 ≤ s ∧ s ≤ 255)

/-- What a message says of its sender. -/
def msgNb (l f lp fp : Int) (ls fs : Bool) (h s : Int) : Nb :=
  if h.tmod 4 = 0 then ⟨l % 8, rk lp, ls, h.tmod 4, s % 8, 0⟩ else ⟨f % 8, rk fp, fs, h.tmod 4, s % 8, 0⟩

theorem msgNb_ok (l f lp fp : Int) (ls fs : Bool) (h s : Int) : (msgNb l f lp fp ls fs h s).Ok := by
  have h1 := Int.tmod_lt_of_pos h (show (0 : Int) < 4 by omega)
  have h2 := Int.lt_tmod_of_pos h (show (0 : Int) < 4 by omega)
  have r1 := rk_range lp
  have r2 := rk_range fp
  unfold msgNb
  split
  · exact ⟨by show 0 ≤ l % 8; omega, by show l % 8 ≤ 7; omega, r1.1, r1.2, by show -3 ≤ h.tmod 4; omega, by show h.tmod 4 ≤ 3; omega⟩
  · exact ⟨by show 0 ≤ f % 8; omega, by show f % 8 ≤ 7; omega, r2.1, r2.2, by show -3 ≤ h.tmod 4; omega, by show h.tmod 4 ≤ 3; omega⟩

/-- note, on a message that amsg has just made. -/
theorem note_msg (N base n : Nat) (L : List Nb) (l f lp fp : Int) (ls fs : Bool) (h s : Int) (a : Option Addr) (c : Nat) (w wm : World) (M : Nat) (hn : L.length = n)
    (hM : ∀ j, wm.cell? ⟨M, j, none⟩ = (msgCells l f lp fp ls fs h s)[j]?) (hMl : M < wm.heap.size)
    (hN : N < wm.heap.size) (hnr : wm.cell? ⟨N, 38, none⟩ = some (.slice a n c)) (hfr : wm.frozen? ⟨N, 38, none⟩ = false)
    (hown : wm.ownsRow base 48 6 (.slice a n c) n (flat L)) (hbase : base ≤ wm.heap.size) (hgN : ∀ g, (Value.slice a n c).ownBlock = some g → g ≠ N) (hNt : N < base ∨ ∀ cur fr, wm.heap[N]? ≠ some (.cells cur 48 fr)) (hgood : Good L) :
    Calls Yba.prog 9 #[.pointer (some ⟨N, 0, none⟩), .pointer (some ⟨M, 0, none⟩)] wm fun e w' => e = .returned (.tuple #[]) ∧ Noted N base wm w' (Value.slice a n c).ownBlock (noteL L (msgNb l f lp fp ls fs h s)) := by
  have hops : (msgNb l f lp fp ls fs h s).hops = h.tmod 4 := by unfold msgNb; split <;> rfl
  have hseq : (msgNb l f lp fp ls fs h s).seq = s % 8 := by unfold msgNb; split <;> rfl
  have hnam : (msgNb l f lp fp ls fs h s).named = 0 := by unfold msgNb; split <;> rfl
  refine note_calls N M base n L _ (l % 8) (rk lp) (f % 8) (rk fp) ls fs (h.tmod 4) (s % 8) a c wm hn ⟨hM 0, hM 1, hM 2, hM 4, hM 5, hM 6, hM 7, hM 8, hMl⟩ hN hnr hfr hown hbase hgN hNt hgood (msgNb_ok l f lp fp ls fs h s) hops hseq hnam ?_
  by_cases h0 : h.tmod 4 = 0
  · refine .inl ⟨h0, ?_, ?_, ?_⟩ <;> unfold msgNb <;> rw [if_pos h0]
  · refine .inr ⟨h0, ?_, ?_, ?_⟩ <;> unfold msgNb <;> rw [if_neg h0]

theorem build45 (w : World) : (Instr.build 45 #[]).run Yba.prog w = .ok (.agg Yba.zeroCells45) w := by kernel_rfl
theorem wp_build45 {o : Oper} {a : Act} {next : Act → World → Prop} {Q : Exit → Act → World → Prop} {w : World} (ho : o.op = .build 45 #[]) (h : next (a.put o.dst (.agg Yba.zeroCells45)) w) : o.wp Yba.prog a w next Q := by
  unfold Oper.wp
  have e : (execOp a.eval o).run Yba.prog w = .ok (.value (.agg Yba.zeroCells45)) w := by
    simp only [execOp, ho, List.map_toArray, List.map_nil, Sem.run_bind, build45, Result.andThen_ok, Sem.run_pure]
  rw [e]
  exact h
theorem zero45 : Yba.zeroCells45[38]? = some (.slice none 0 0) := by kernel_rfl
theorem size45 : Yba.zeroCells45.size = 68 := by kernel_rfl

theorem pair_at {R : Nb → Nb → Prop} {L : List Nb} (h : L.Pairwise R) {x y : Nat} {a b : Nb} (hxy : x < y) (ha : L[x]? = some a) (hb : L[y]? = some b) : R a b := by
  obtain ⟨hx, rfl⟩ := List.getElem?_eq_some_iff.1 ha
  obtain ⟨hy, rfl⟩ := List.getElem?_eq_some_iff.1 hb
  exact List.pairwise_iff_getElem.1 h x y hx hy hxy

/-- What the node holds between two messages. -/
structure Holds (N : Nat) (w : World) (a : Option Addr) (c : Nat) (L : List Nb) : Prop where
  good : Good L
  near : w.cell? ⟨N, 38, none⟩ = some (.slice a L.length c)
  frozen : w.frozen? ⟨N, 38, none⟩ = false
  own : w.ownsRow (N + 1) 48 6 (.slice a L.length c) L.length (flat L)
  lt : N < w.heap.size

theorem Holds.below {N : Nat} {w w' : World} {a : Option Addr} {c : Nat} {L : List Nb} (h : Holds N w a c L) (hb : Below w.heap.size w w') : Holds N w' a c L :=
  ⟨h.good, (hb.cell (p := ⟨N, 38, none⟩) h.lt).trans h.near, (hb.frozen (p := ⟨N, 38, none⟩) h.lt).trans h.frozen, own_any h.own (fun g hg => hb.block g (h.own.lt g hg).2), Nat.lt_of_lt_of_le h.lt hb.size⟩

/-- One message: amsg's world, then note's. -/
theorem note_round {N : Nat} {wm : World} {a : Option Addr} {c : Nat} {L : List Nb} (hh : Holds N wm a c L) (M : Nat) (l f lp fp : Int) (ls fs : Bool) (h s : Int) (hM : ∀ j, wm.cell? ⟨M, j, none⟩ = (msgCells l f lp fp ls fs h s)[j]?) (hMl : M < wm.heap.size) :
    Calls Yba.prog 9 #[.pointer (some ⟨N, 0, none⟩), .pointer (some ⟨M, 0, none⟩)] wm fun e w' => e = .returned (.tuple #[]) ∧ ∃ a' c', Holds N w' a' c' (noteL L (msgNb l f lp fp ls fs h s)) ∧ Below N wm w' := by
  have hgN : ∀ g, (Value.slice a L.length c).ownBlock = some g → g ≠ N := fun g hg => by have := (hh.own.lt g hg).1; omega
  refine (note_msg N (N + 1) L.length L l f lp fp ls fs h s a c wm wm M rfl hM hMl hh.lt hh.near hh.frozen hh.own hh.lt hgN (.inl (by omega)) hh.good).mono ?_
  rintro e w' ⟨rfl, hn⟩
  obtain ⟨a', c', h1, h2⟩ := hn.near
  refine ⟨rfl, a', c', ⟨noteL_good hh.good (msgNb_ok l f lp fp ls fs h s), h1, hn.frozen, h2, Nat.lt_of_lt_of_le hh.lt hn.size⟩, ⟨hn.os, hn.tape, hn.output, hn.size, fun k hk => hn.other k (Nat.lt_trans hk hh.lt) (by omega) ?_⟩⟩
  intro e
  have := (hh.own.lt k e.symm).1
  omega

set_option maxRecDepth 100000 in
set_option maxHeartbeats 4000000 in
theorem script_walk (b off len cap : Nat) (ad : Option Addr) (w : World) (hlen : len ≤ 1024)
    (hms : ∀ k, k < len → ad = some ⟨b, off, none⟩ ∧ b < w.heap.size ∧ ∃ l f lp fp ls fs h s, InAt w b (off + k * 8) l f lp fp ls fs h s) :
    Calls Yba.prog 4 #[.slice ad len cap] w fun e w' => e = .returned (.bool true) ∧ Below w.heap.size w w' := by
  have hdl : decide ((1024 : Int) < (len : Int)) = false := by simp; omega
  go_enter Yba.func4, Yba.ntmps4
  go_wp2
  refine wp_build45 rfl ?_
  go_simp
  go_wp2
  have hb0 : Below w.heap.size w (w.alloc (.cells Yba.zeroCells45 45)) := (Below.refl _ w).alloc (Nat.le_refl _) _
  have hH0 : Holds w.heap.size (w.alloc (.cells Yba.zeroCells45 45)) none 0 [] := by
    refine ⟨⟨fun a h => (by cases h), List.Pairwise.nil, List.Pairwise.nil, Nat.zero_le _⟩, ?_, ?_, World.ownsRow_nil _ _ _ _, by simp⟩
    · rw [World.cell?_alloc_new]; exact zero45
    · exact World.frozen?_alloc_at _ _ _ _ rfl
  generalize w.alloc (.cells Yba.zeroCells45 45) = W0 at *
  obtain ⟨N, hN⟩ : ∃ N, N = w.heap.size := ⟨_, rfl⟩
  rw [← hN] at hb0 hH0
  rw [← hN]
  have HN : Hid _ := hN
  have HMS : Hid _ := hms
  clear hN hms
  go_loopw [16] (fun i wr => ∃ k : Nat, k ≤ len ∧ i = .int .i64 k ∧ ∃ L a c, Holds N wr a c L ∧ Below N w wr) (fun i _ => len - (intOf i).toNat)
  case atStart => exact ⟨0, Nat.zero_le _, rfl, [], none, 0, hH0, hb0⟩
  case round =>
    obtain ⟨k, hk, rfl, L, a, c, hH, hbw⟩ := hrel
    by_cases hkl : k < len
    · obtain ⟨rfl, hbl, l, f, lp, fp, ls, fs, h, s, hin⟩ := HMS.out k hkl
      have hkl' : (k : Int) < (len : Int) := by omega
      obtain ⟨c0, c1, c2, c3, c4, c5, c6, c7, hr⟩ := hin
      have kc : ∀ o, wr.cell? ⟨b, o, none⟩ = w.cell? ⟨b, o, none⟩ := fun o => hbw.cell (p := ⟨b, o, none⟩) (by rw [HN.out]; exact hbl)
      rw [← kc] at c0 c1 c2 c3 c4 c5 c6 c7
      clear kc
      have hmsg := amsg_calls l f lp fp ls fs h s hr.1.1 hr.1.2 hr.2.1.1 hr.2.1.2 hr.2.2.1.1 hr.2.2.1.2 hr.2.2.2.1.1 hr.2.2.2.1.2 hr.2.2.2.2.1.1 hr.2.2.2.2.1.2 hr.2.2.2.2.2.1 hr.2.2.2.2.2.2
      unfold msgIn at hmsg
      have HMSG : Hid _ := hmsg
      have HR : Hid _ := hr
      clear hmsg hr
      go_wp2_with fail
      refine Calls.mono (HMSG.out _) ?_
      rintro e wm ⟨q, rfl, hwm⟩
      have HWM : Hid _ := hwm
      have hHm : Holds N wm a c L := by
        rw [hwm]
        refine hH.below ?_
        exact (bdrew (((Below.refl _ wr).alloc (Nat.le_refl _) _).alloc (by simp) _) q).alloc (by simp; omega) _
      have hbm : Below N w wm := by
        rw [hwm]
        have h0 := hH.lt
        exact (bdrew ((hbw.alloc (by omega) _).alloc (by simp; omega) _) q).alloc (by simp; omega) _
      have hMc : ∀ j, wm.cell? ⟨wr.heap.size + 1 + 1, j, none⟩ = (msgCells l f lp fp ls fs h s)[j]? := by
        intro j
        rw [hwm]
        exact World.cell?_alloc_at _ _ _ _ (by simp)
      have hMl : wr.heap.size + 1 + 1 < wm.heap.size := by rw [hwm]; simp
      have hnote := note_round hHm _ l f lp fp ls fs h s hMc hMl
      have HNOTE : Hid _ := hnote
      have hbm' := hbm
      clear hwm hMc hMl hnote c0 c1 c2 c3 c4 c5 c6 c7 HMSG
      go_wp2_with fail
      refine Calls.mono (HNOTE.out) ?_
      rintro e w6 ⟨rfl, a2, c2, hH6, hb6⟩
      have hbw6 : Below N w w6 := hbm.trans hb6
      generalize noteL L (msgNb l f lp fp ls fs h s) = L2 at *
      obtain ⟨n2, hn2⟩ : ∃ n2, n2 = L2.length := ⟨_, rfl⟩
      have hnear := hH6.near
      rw [← hn2] at hnear
      have hn6 : n2 ≤ 6 := by have := hH6.good.len; omega
      have HN2 : Hid _ := hn2
      clear hn2 HNOTE HWM hb6 hbm hHm hH hbw hbm'
      have hel : ∀ k b wr, Below w6.heap.size w6 wr → L2[k]? = some b → ∃ g, a2 = some ⟨g, 0, none⟩ ∧ g < wr.heap.size ∧ k < n2 ∧ b.Ok ∧ ∀ j, j < 6 → wr.cell? ⟨g, k * 6 + j, none⟩ = b.cells[j]? := by
        intro k b wr hbr hb
        obtain ⟨g, e1, e2, e3, e4⟩ := own_elem hH6.own rfl hb
        exact ⟨g, e1, Nat.lt_of_lt_of_le e2 hbr.size, by rw [HN2.out]; exact e3, hH6.good.ok b (List.mem_of_getElem? hb), fun j hj => (hbr.cell (p := ⟨g, k * 6 + j, none⟩) e2).trans (e4 j hj)⟩
      have HEL : Hid _ := hel
      clear hel
      go_wp2
      generalize wr = wo at *
      go_loopw [33] (fun i wr => ∃ x : Nat, x ≤ n2 ∧ i = .int .i64 x ∧ Below w6.heap.size w6 wr) (fun i _ => n2 - (intOf i).toNat)
      case atStart => exact ⟨0, Nat.zero_le _, rfl, Below.refl _ _⟩
      case round =>
        obtain ⟨x, hx, rfl, hbx⟩ := hrel
        by_cases hxl : x < n2
        · have hxl' : (x : Int) < (n2 : Int) := by omega
          have hxL : x < L2.length := by rw [← HN2.out]; exact hxl
          obtain ⟨b1, hb1⟩ : ∃ b1, L2[x]? = some b1 := ⟨_, List.getElem?_eq_getElem hxL⟩
          obtain ⟨g, hag, _, _, _, _⟩ := HEL.out x b1 wr hbx hb1
          subst hag
          have HB1 : Hid _ := hb1
          have hidn : ∀ y b2, x < y → L2[y]? = some b2 → b1.id ≠ b2.id := fun y b2 hxy h2 => pair_at hH6.good.ids hxy hb1 h2
          have HID : Hid _ := hidn
          clear hb1 hidn
          generalize wr = wv at *
          go_upto_region 14 with (fail)
          go_cut [53] (fun s53 wx => s53 = .bool false ∧ Below w6.heap.size w6 wx)
          case first =>
            obtain ⟨g', hag', hgl, _, hbo, hcells⟩ := HEL.out x b1 wv hbx HB1.out
            cases hag'
            by_cases hx1 : x + 1 < n2
            · have hx1' : (x : Int) + 1 < (n2 : Int) := by omega
              have hxL1 : x + 1 < L2.length := by rw [← HN2.out]; exact hx1
              obtain ⟨b2, hb2⟩ : ∃ b2, L2[x + 1]? = some b2 := ⟨_, List.getElem?_eq_getElem hxL1⟩
              obtain ⟨g'', hag'', _, _, hbo2, hcells2⟩ := HEL.out (x + 1) b2 wv hbx hb2
              cases hag''
              have hbf := before_calls hbo hbo2
              have hkk : decide (b1.key < b2.key) = true := by simpa using pair_at hH6.good.sorted (show x < x + 1 by omega) HB1.out hb2
              rw [hkk] at hbf
              unfold Nb.val at hbf
              have HBF : Hid _ := hbf
              obtain ⟨x1, hx1e⟩ : ∃ x1, x1 = x + 1 := ⟨_, rfl⟩
              rw [← hx1e] at hcells2
              have hwx : IntKind.wrap .i64 ((x : Int) + 1) = (x1 : Int) := by rw [wrap_i64 _ (by omega) (by omega)]; omega
              have c0 : wv.cell? ⟨g, x * 6, none⟩ = some (.int .u64 b1.id) := hcells 0 (by omega)
              have c1 : wv.cell? ⟨g, x * 6 + 1, none⟩ = some (.float .f64 (pb b1.pr)) := hcells 1 (by omega)
              have c2' : wv.cell? ⟨g, x * 6 + 2, none⟩ = some (.bool b1.st) := hcells 2 (by omega)
              have c3 : wv.cell? ⟨g, x * 6 + 3, none⟩ = some (.int .i64 b1.hops) := hcells 3 (by omega)
              have c4 : wv.cell? ⟨g, x * 6 + 4, none⟩ = some (.int .u64 b1.seq) := hcells 4 (by omega)
              have c5 : wv.cell? ⟨g, x * 6 + 5, none⟩ = some (.int .u64 b1.named) := hcells 5 (by omega)
              have e0 : wv.cell? ⟨g, x1 * 6, none⟩ = some (.int .u64 b2.id) := hcells2 0 (by omega)
              have e1 : wv.cell? ⟨g, x1 * 6 + 1, none⟩ = some (.float .f64 (pb b2.pr)) := hcells2 1 (by omega)
              have e2 : wv.cell? ⟨g, x1 * 6 + 2, none⟩ = some (.bool b2.st) := hcells2 2 (by omega)
              have e3 : wv.cell? ⟨g, x1 * 6 + 3, none⟩ = some (.int .i64 b2.hops) := hcells2 3 (by omega)
              have e4 : wv.cell? ⟨g, x1 * 6 + 4, none⟩ = some (.int .u64 b2.seq) := hcells2 4 (by omega)
              have e5 : wv.cell? ⟨g, x1 * 6 + 5, none⟩ = some (.int .u64 b2.named) := hcells2 5 (by omega)
              have hx2 : (x1 : Int) < (n2 : Int) := by omega
              have HKEEP : Hid (∀ (q : Nat) (w2 : World), Below wv.heap.size (wv.drewN q) w2 → Hid (Below w6.heap.size w6 w2) ∧ (w2.cell? ⟨g, x * 6, none⟩ = some (.int .u64 b1.id) ∧ w2.cell? ⟨g, x * 6 + 1, none⟩ = some (.float .f64 (pb b1.pr)) ∧ w2.cell? ⟨g, x * 6 + 2, none⟩ = some (.bool b1.st) ∧ w2.cell? ⟨g, x * 6 + 3, none⟩ = some (.int .i64 b1.hops) ∧ w2.cell? ⟨g, x * 6 + 4, none⟩ = some (.int .u64 b1.seq) ∧ w2.cell? ⟨g, x * 6 + 5, none⟩ = some (.int .u64 b1.named) ∧ w2.cell? ⟨g, x1 * 6, none⟩ = some (.int .u64 b2.id) ∧ w2.cell? ⟨g, x1 * 6 + 1, none⟩ = some (.float .f64 (pb b2.pr)) ∧ w2.cell? ⟨g, x1 * 6 + 2, none⟩ = some (.bool b2.st) ∧ w2.cell? ⟨g, x1 * 6 + 3, none⟩ = some (.int .i64 b2.hops) ∧ w2.cell? ⟨g, x1 * 6 + 4, none⟩ = some (.int .u64 b2.seq) ∧ w2.cell? ⟨g, x1 * 6 + 5, none⟩ = some (.int .u64 b2.named))) := by
                intro q w2 hb2'
                have k2 : ∀ o', w2.cell? ⟨g, o', none⟩ = wv.cell? ⟨g, o', none⟩ := fun o' => hb2'.cell (p := ⟨g, o', none⟩) hgl
                exact ⟨(bdrew hbx q).trans (hb2'.mono hbx.size), (k2 _).trans c0, (k2 _).trans c1, (k2 _).trans c2', (k2 _).trans c3, (k2 _).trans c4, (k2 _).trans c5, (k2 _).trans e0, (k2 _).trans e1, (k2 _).trans e2, (k2 _).trans e3, (k2 _).trans e4, (k2 _).trans e5⟩
              have HX1 : Hid _ := hx1e
              clear hcells hcells2 hbo hbo2 hbf hkk hb2 hx1e
              go_region_held3 (fun w' => w'.cell? ⟨g, x * 6, none⟩ = some (.int .u64 b1.id) ∧ w'.cell? ⟨g, x * 6 + 1, none⟩ = some (.float .f64 (pb b1.pr)) ∧ w'.cell? ⟨g, x * 6 + 2, none⟩ = some (.bool b1.st) ∧ w'.cell? ⟨g, x * 6 + 3, none⟩ = some (.int .i64 b1.hops) ∧ w'.cell? ⟨g, x * 6 + 4, none⟩ = some (.int .u64 b1.seq) ∧ w'.cell? ⟨g, x * 6 + 5, none⟩ = some (.int .u64 b1.named) ∧ w'.cell? ⟨g, x1 * 6, none⟩ = some (.int .u64 b2.id) ∧ w'.cell? ⟨g, x1 * 6 + 1, none⟩ = some (.float .f64 (pb b2.pr)) ∧ w'.cell? ⟨g, x1 * 6 + 2, none⟩ = some (.bool b2.st) ∧ w'.cell? ⟨g, x1 * 6 + 3, none⟩ = some (.int .i64 b2.hops) ∧ w'.cell? ⟨g, x1 * 6 + 4, none⟩ = some (.int .u64 b2.seq) ∧ w'.cell? ⟨g, x1 * 6 + 5, none⟩ = some (.int .u64 b2.named))
                (first | exact ⟨c0, c1, c2', c3, c4, c5, e0, e1, e2, e3, e4, e5⟩ | assumption) ((go_at_call 10; refine Calls.mono (HBF.out _) ?_; rintro e w2 ⟨rfl, hb2⟩; have hS2 := HKEEP.out 1 w2 hb2; clear hb2; have HB3 := hS2.1; have hS3 := hS2.2; clear hS2))
              go_wp2
              go_meet
              case rel => exact ⟨rfl, HB3.out⟩
            · have hd : decide ((x : Int) + 1 < (n2 : Int)) = false := by simp; omega
              clear hcells hbo
              go_quiet (fail)
              go_wp2
              go_meet
              case rel => exact ⟨rfl, bdrew hbx _⟩
          case rest =>
            obtain ⟨rfl, hbx2⟩ := hcut
            generalize wc = wt at *
            go_wp2
            go_loopw [8] (fun j wr => ∃ y : Nat, x + 1 ≤ y ∧ y ≤ n2 ∧ j = .int .i64 y ∧ Below w6.heap.size w6 wr) (fun j _ => n2 - (intOf j).toNat)
            case atStart => exact ⟨x + 1, Nat.le_refl _, by omega, by go_num, hbx2⟩
            case round =>
              obtain ⟨y, hxy, hyn, rfl, hby⟩ := hrel
              by_cases hyl : y < n2
              · have hyl' : (y : Int) < (n2 : Int) := by omega
                have hyL : y < L2.length := by rw [← HN2.out]; exact hyl
                obtain ⟨b2, hb2⟩ : ∃ b2, L2[y]? = some b2 := ⟨_, List.getElem?_eq_getElem hyL⟩
                obtain ⟨g', hag', hgl, _, _, hcells⟩ := HEL.out x b1 wr hby HB1.out
                cases hag'
                obtain ⟨g'', hag'', _, _, _, hcells2⟩ := HEL.out y b2 wr hby hb2
                cases hag''
                have c0 : wr.cell? ⟨g, x * 6, none⟩ = some (.int .u64 b1.id) := hcells 0 (by omega)
                have e0 : wr.cell? ⟨g, y * 6, none⟩ = some (.int .u64 b2.id) := hcells2 0 (by omega)
                have hne : (b1.id == b2.id) = false := by rw [beq_eq_false_iff_ne]; exact HID.out y b2 (by omega) hb2
                clear hcells hcells2 hb2
                go_wp2
                go_quiet (fail)
                go_wp2
                go_roundw
                case rel => exact ⟨y + 1, by omega, by omega, by go_num, bdrew hby _⟩
                case measure => simp [intOf]; omega
              · go_wp2
                go_roundw
                case rel => exact ⟨x + 1, by omega, by go_num, hby⟩
                case measure => simp [intOf]; omega
        · go_wp2
          go_roundw
          case rel => exact ⟨k + 1, by omega, by go_num, L2, a2, c2, hH6.below hbx, hbw6.trans (hbx.mono (Nat.le_of_lt hH6.lt))⟩
          case measure => simp [intOf]; omega
    · go_wp2
      go_ret
      exact ⟨rfl, by rw [← HN.out]; exact hbw⟩
end Go.Proofs.Ybulkawyi
