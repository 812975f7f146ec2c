import Derived.Test.YbulkawyiNoteB
namespace Go.Proofs.Ybulkawyi
open Go.RowKit
set_option linter.unusedVariables false
attribute [local go_sem] run_store_float

set_option maxRecDepth 100000 in
set_option maxHeartbeats 16000000 in
theorem note_calls (N M base n : Nat) (L : List Nb) (o : Nb) (lid lpr fid fpr : Int) (lst fst : Bool) (hops seq : Int) (a : Option Addr) (c : Nat) (w : World) (hn : L.length = n)
    (hm : IsMsg w M lid lpr fid fpr lst fst hops seq) (hN : N < w.heap.size) (hnr : w.cell? ⟨N, 38, none⟩ = some (.slice a n c)) (hfr : w.frozen? ⟨N, 38, none⟩ = false)
    (hown : w.ownsRow base 48 6 (.slice a n c) n (flat L)) (hbase : base ≤ w.heap.size) (hgN : ∀ g, (Value.slice a n c).ownBlock = some g → g ≠ N) (hNt : N < base ∨ ∀ cur fr, w.heap[N]? ≠ some (.cells cur 48 fr))
    (hgood : Good L) (hok : o.Ok) (hoh : o.hops = hops) (hos : o.seq = seq) (hon : o.named = 0)
    (ho : (hops = 0 ∧ o.id = lid ∧ o.pr = lpr ∧ o.st = lst) ∨ (hops ≠ 0 ∧ o.id = fid ∧ o.pr = fpr ∧ o.st = fst)) :
    Calls Yba.prog 9 #[.pointer (some ⟨N, 0, none⟩), .pointer (some ⟨M, 0, none⟩)] w fun e w' => e = .returned (.tuple #[]) ∧ Noted N base w w' (Value.slice a n c).ownBlock (noteL L o) := by
  obtain ⟨m0, m1, m2, m4, m5, m6, m7, m8, hM⟩ := hm
  have HSAME : Hid (∀ w', Below w.heap.size w w' → Noted N base w w' (Value.slice a n c).ownBlock L) := fun w' hb => by subst hn; exact noted_same hN hnr hfr hown hb
  have HO : Hid _ := ho
  have HNT : Hid _ := hNt
  clear hNt
  have HN : Hid _ := hn
  have HH : Hid _ := hoh
  have HS : Hid _ := hos
  have hn6 : n ≤ 6 := by have := hgood.len; omega
  clear ho hn hoh hos
  go_enter Yba.func9, Yba.ntmps9
  go_upto_if 18 with (fail)
  go_cut [4] (fun s4 wc => s4 = .pointer (some ⟨w.heap.size, 0, none⟩) ∧ wc = w.alloc (.cells #[.int .u64 o.id, .float .f64 (pb o.pr), .bool o.st] 36))
  case first =>
    rcases HO.out with ⟨h0, e1, e2, e3⟩ | ⟨h0, e1, e2, e3⟩
    · have hd : (hops == 0) = true := by simpa using h0
      have HE : Hid (o.id = lid ∧ o.pr = lpr ∧ o.st = lst) := ⟨e1, e2, e3⟩
      clear h0 e1 e2 e3
      go_wp2
      go_meet
      case rel => rw [HE.out.1, HE.out.2.1, HE.out.2.2]; exact ⟨rfl, rfl⟩
    · have hd : (hops == 0) = false := by simpa using h0
      have HE : Hid (o.id = fid ∧ o.pr = fpr ∧ o.st = fst) := ⟨e1, e2, e3⟩
      clear h0 e1 e2 e3
      go_wp2
      go_meet
      case rel => rw [HE.out.1, HE.out.2.1, HE.out.2.2]; exact ⟨rfl, rfl⟩
  case rest =>
    obtain ⟨rfl, rfl⟩ := hcut
    clear m0 m1 m2 m6 m7 m8
    have hb1 : Below w.heap.size w (w.alloc (.cells #[.int .u64 o.id, .float .f64 (pb o.pr), .bool o.st] 36)) := (Below.refl _ w).alloc (Nat.le_refl _) _
    have f0 : (w.alloc (.cells #[.int .u64 o.id, .float .f64 (pb o.pr), .bool o.st] 36)).cell? ⟨w.heap.size, 0, none⟩ = some (.int .u64 o.id) := by rw [World.cell?_alloc_new]; rfl
    have f1 : (w.alloc (.cells #[.int .u64 o.id, .float .f64 (pb o.pr), .bool o.st] 36)).cell? ⟨w.heap.size, 1, none⟩ = some (.float .f64 (pb o.pr)) := by rw [World.cell?_alloc_new]; rfl
    have f2 : (w.alloc (.cells #[.int .u64 o.id, .float .f64 (pb o.pr), .bool o.st] 36)).cell? ⟨w.heap.size, 2, none⟩ = some (.bool o.st) := by rw [World.cell?_alloc_new]; rfl
    have hsz : w.heap.size < (w.alloc (.cells #[.int .u64 o.id, .float .f64 (pb o.pr), .bool o.st] 36)).heap.size := by simp
    have n1 := (hb1.cell (p := ⟨N, 38, none⟩) hN).trans hnr
    have m5' := (hb1.cell (p := ⟨M, 5, none⟩) hM).trans m5
    have m4' := (hb1.cell (p := ⟨M, 4, none⟩) hM).trans m4
    generalize w.alloc (.cells #[.int .u64 o.id, .float .f64 (pb o.pr), .bool o.st] 36) = W1 at *
    go_upto_if 30 with (fail)
    go_cut [7] (fun _ wc => Below w.heap.size w wc ∧ w.heap.size < wc.heap.size ∧ wc.cell? ⟨w.heap.size, 0, none⟩ = some (.int .u64 o.id) ∧ wc.cell? ⟨w.heap.size, 1, none⟩ = some (.float .f64 (pb o.pr)) ∧ wc.cell? ⟨w.heap.size, 2, none⟩ = some (.bool o.st) ∧ early L o = false)
    case first =>
      by_cases h6 : n = 6
      · subst h6
        have hL6 : L.length = 6 := HN.out
        obtain ⟨b, hbl⟩ : ∃ b, L[5]? = some b := ⟨L[5]'(by omega), List.getElem?_eq_getElem _⟩
        have hbok := hgood.ok b (List.mem_of_getElem? hbl)
        obtain ⟨g, rfl⟩ : ∃ g, a = some ⟨g, 0, none⟩ := by
          rcases hown.2 with ⟨h2, h3⟩ | ⟨g', cap', cur, e1, _⟩
          · cases h2
          · cases e1; exact ⟨g', rfl⟩
        have hgl : g < w.heap.size := (hown.lt _ rfl).2
        have hbc : ∀ j, j < 6 → W1.cell? ⟨g, 30 + j, none⟩ = b.cells[j]? := fun j hj => by
          rw [(hb1.cell (p := ⟨g, 30 + j, none⟩) hgl), hown.cellAt (30 + j) (by omega)]; exact flat_get hbl j hj
        have c0 : W1.cell? ⟨g, 30, none⟩ = some (.int .u64 b.id) := hbc 0 (by omega)
        have c1 : W1.cell? ⟨g, 30 + 1, none⟩ = some (.float .f64 (pb b.pr)) := hbc 1 (by omega)
        have c2 : W1.cell? ⟨g, 30 + 2, none⟩ = some (.bool b.st) := hbc 2 (by omega)
        have c3 : W1.cell? ⟨g, 30 + 3, none⟩ = some (.int .i64 b.hops) := hbc 3 (by omega)
        have he := early_six (o := o) hL6 hbl
        have rb := Nb.ck_range hbok
        have ro := Nb.ck_range hok
        have hko : o.key = hops * 128 + o.ck := by rw [← HH.out]; rfl
        have hkb : b.key = b.hops * 128 + b.ck := rfl
        have HE : Hid _ := he
        have HK : Hid _ := hko
        have HKB : Hid _ := hkb
        have HR : Hid _ := And.intro rb ro
        clear he hko hkb rb ro hbc
        by_cases hid : b.id = o.id
        · have hid' : (b.id != o.id) = false := by simpa using hid
          have hef : Hid (early L o = false) := by show _ = _; rw [HE.out, hid']; rfl
          clear hid
          go_wp2
          go_quiet (fail)
          go_wp2
          go_meet
          case rel => exact ⟨bdrew hb1 _, hsz, f0, f1, f2, hef.out⟩
        · have hid' : (b.id != o.id) = true := by simpa using hid
          clear hid
          rcases Int.lt_trichotomy hops b.hops with hh | hh | hh
          · have hd1 : decide (b.hops < hops) = false := by simp; omega
            have hd2 : (hops == b.hops) = false := by rw [beq_eq_false_iff_ne]; omega
            have hef : Hid (early L o = false) := by
              show _ = _
              rw [HE.out, hid', HK.out, HKB.out]
              have := HR.out
              simp; omega
            go_wp2
            go_quiet (fail)
            go_wp2
            go_meet
            case rel => exact ⟨bdrew hb1 _, hsz, f0, f1, f2, hef.out⟩
          · have hef : Hid (early L o = !decide (o.ck < b.ck)) := by
              show _ = _
              rw [HE.out, hid', HK.out, HKB.out, hh]
              simp
            have hd1 : decide (b.hops < hops) = false := by simp; omega
            have hd2 : (hops == b.hops) = true := by simpa using hh
            have HKEEP : Hid (∀ (q : Nat) (w2 : World), Below W1.heap.size (W1.drewN q) w2 → Hid (Below w.heap.size w w2 ∧ w.heap.size < w2.heap.size) ∧ (w2.cell? ⟨w.heap.size, 0, none⟩ = some (.int .u64 o.id) ∧ w2.cell? ⟨w.heap.size, 1, none⟩ = some (.float .f64 (pb o.pr)) ∧ w2.cell? ⟨w.heap.size, 2, none⟩ = some (.bool o.st) ∧ w2.cell? ⟨g, 30, none⟩ = some (.int .u64 b.id) ∧ w2.cell? ⟨g, 30 + 1, none⟩ = some (.float .f64 (pb b.pr)) ∧ w2.cell? ⟨g, 30 + 2, none⟩ = some (.bool b.st) ∧ w2.cell? ⟨g, 30 + 3, none⟩ = some (.int .i64 b.hops) ∧ w2.cell? ⟨M, 5, none⟩ = some (.int .i64 hops))) := by
              intro q w2 hb2
              have k2 : ∀ b' o', b' < W1.heap.size → w2.cell? ⟨b', o', none⟩ = W1.cell? ⟨b', o', none⟩ := fun b' o' h => hb2.cell (p := ⟨b', o', none⟩) h
              have hz2 : W1.heap.size ≤ w2.heap.size := hb2.size
              exact ⟨⟨(bdrew hb1 q).trans (hb2.mono (by omega)), by omega⟩, (k2 _ _ hsz).trans f0, (k2 _ _ hsz).trans f1, (k2 _ _ hsz).trans f2, (k2 _ _ (by omega)).trans c0, (k2 _ _ (by omega)).trans c1, (k2 _ _ (by omega)).trans c2, (k2 _ _ (by omega)).trans c3, (k2 _ _ (by omega)).trans m5'⟩
            clear hh
            by_cases hck : o.ck < b.ck
            · have hdc : Hid (decide (o.ck < b.ck) = true) := by show _ = _; simpa using hck
              have hco := fun wx => outranks_raw o.id b.id o.pr b.pr o.st b.st true hok.pr0 hok.pr3 hbok.pr0 hbok.pr3 (by rw [← outranks_eq hok hbok]; simpa using hck) wx
              have HCO : Hid _ := hco
              clear hco hck
              go_wp2
              go_region_held3 (fun w' => w'.cell? ⟨w.heap.size, 0, none⟩ = some (.int .u64 o.id) ∧ w'.cell? ⟨w.heap.size, 1, none⟩ = some (.float .f64 (pb o.pr)) ∧ w'.cell? ⟨w.heap.size, 2, none⟩ = some (.bool o.st) ∧ w'.cell? ⟨g, 30, none⟩ = some (.int .u64 b.id) ∧ w'.cell? ⟨g, 30 + 1, none⟩ = some (.float .f64 (pb b.pr)) ∧ w'.cell? ⟨g, 30 + 2, none⟩ = some (.bool b.st) ∧ w'.cell? ⟨g, 30 + 3, none⟩ = some (.int .i64 b.hops) ∧ w'.cell? ⟨M, 5, none⟩ = some (.int .i64 hops))
                (first | exact ⟨f0, f1, f2, c0, c1, c2, c3, m5'⟩ | go_keep | assumption) ((go_at_call 18; refine Calls.mono (HCO.out _) ?_; rintro e w2 ⟨rfl, hb2⟩; have hS2 := HKEEP.out 1 w2 hb2; clear hb2; have HB2 := hS2.1; have hS3 := hS2.2; clear hS2))
              go_wp2
              go_meet
              case rel => exact ⟨HB2.out.1, HB2.out.2, hS3.1, hS3.2.1, hS3.2.2.1, by rw [hef.out, hdc.out]; rfl⟩
            · have hdc : Hid (decide (o.ck < b.ck) = false) := by show _ = _; simpa using hck
              have hco := fun wx => outranks_raw o.id b.id o.pr b.pr o.st b.st false hok.pr0 hok.pr3 hbok.pr0 hbok.pr3 (by rw [← outranks_eq hok hbok]; simpa using hck) wx
              have HCO : Hid _ := hco
              have hfin : Hid (∀ w', Below w.heap.size w w' → Noted N base w w' (Value.slice (some ⟨g, 0, none⟩) 6 c).ownBlock (noteL L o)) := by
                intro w' hb'
                rw [noteL_early (by rw [hef.out, hdc.out]; rfl)]; exact HSAME.out w' hb'
              clear hco hck
              go_wp2
              go_region_held3 (fun w' => w'.cell? ⟨w.heap.size, 0, none⟩ = some (.int .u64 o.id) ∧ w'.cell? ⟨w.heap.size, 1, none⟩ = some (.float .f64 (pb o.pr)) ∧ w'.cell? ⟨w.heap.size, 2, none⟩ = some (.bool o.st) ∧ w'.cell? ⟨g, 30, none⟩ = some (.int .u64 b.id) ∧ w'.cell? ⟨g, 30 + 1, none⟩ = some (.float .f64 (pb b.pr)) ∧ w'.cell? ⟨g, 30 + 2, none⟩ = some (.bool b.st) ∧ w'.cell? ⟨g, 30 + 3, none⟩ = some (.int .i64 b.hops) ∧ w'.cell? ⟨M, 5, none⟩ = some (.int .i64 hops))
                (first | exact ⟨f0, f1, f2, c0, c1, c2, c3, m5'⟩ | go_keep | assumption) ((go_at_call 18; refine Calls.mono (HCO.out _) ?_; rintro e w2 ⟨rfl, hb2⟩; have hS2 := HKEEP.out 1 w2 hb2; clear hb2; have HB2 := hS2.1; have hS3 := hS2.2; clear hS2))
              go_wp2
              refine bodyPost_ret (results_none rfl _ _ _) rfl ?_
              exact ⟨rfl, hfin.out _ HB2.out.1⟩
          · have hd1 : decide (b.hops < hops) = true := by simp; omega
            have hef : Hid (early L o = true) := by
              show _ = _
              rw [HE.out, hid', HK.out, HKB.out]
              have := HR.out
              simp; omega
            have hfin : Hid (∀ w', Below w.heap.size w w' → Noted N base w w' (Value.slice (some ⟨g, 0, none⟩) 6 c).ownBlock (noteL L o)) := by
              intro w' hb'
              rw [noteL_early hef.out]; exact HSAME.out w' hb'
            go_wp2
            go_quiet (fail)
            go_wp2
            refine bodyPost_ret (results_none rfl _ _ _) rfl ?_
            exact ⟨rfl, hfin.out _ (bdrew hb1 _)⟩
      · have hd : ((n : Int) == 6) = false := by rw [beq_eq_false_iff_ne]; omega
        go_wp2
        go_meet
        case rel => exact ⟨hb1, hsz, f0, f1, f2, early_not (by rw [HN.out]; exact h6)⟩
    case rest =>
      obtain ⟨hb2, hsz2, d0, d1, d2, hearly⟩ := hcut
      have HEA : Hid _ := hearly
      have n2 := (hb2.cell (p := ⟨N, 38, none⟩) hN).trans hnr
      have m52 := (hb2.cell (p := ⟨M, 5, none⟩) hM).trans m5
      have m42 := (hb2.cell (p := ⟨M, 4, none⟩) hM).trans m4
      clear hearly hb1 f0 f1 f2 hsz n1 m5' m4'
      have hM2 : M < wc.heap.size := by omega
      have hc0 : o.cells = [.int .u64 o.id, .float .f64 (pb o.pr), .bool o.st, .int .i64 hops, .int .u64 seq, .int .u64 0] := by
        unfold Nb.cells; rw [HH.out, HS.out, hon]
      have HC0 : Hid _ := hc0
      clear hc0
      go_wp2
      go_region
      have hb8 : Below w.heap.size w ((wc.alloc (.cells #[.int .u64 o.id, .float .f64 (pb o.pr), .bool o.st, .int .i64 hops, .int .u64 seq, .int .u64 0] 48)).drew) := (hb2.alloc (by omega) _).drew
      have hr8 : ((wc.alloc (.cells #[.int .u64 o.id, .float .f64 (pb o.pr), .bool o.st, .int .i64 hops, .int .u64 seq, .int .u64 0] 48)).drew).heap[wc.heap.size]? = some (.cells #[.int .u64 o.id, .float .f64 (pb o.pr), .bool o.st, .int .i64 hops, .int .u64 seq, .int .u64 0] 48 (0, 0)) := heap_alloc_new wc _
      have hs8 : wc.heap.size < ((wc.alloc (.cells #[.int .u64 o.id, .float .f64 (pb o.pr), .bool o.st, .int .i64 hops, .int .u64 seq, .int .u64 0] 48)).drew).heap.size := by show _ < (wc.alloc _).heap.size; simp
      generalize (wc.alloc (.cells #[.int .u64 o.id, .float .f64 (pb o.pr), .bool o.st, .int .i64 hops, .int .u64 seq, .int .u64 0] 48)).drew = W8 at *
      have q0 : W8.cell? ⟨wc.heap.size, 0, none⟩ = some (.int .u64 o.id) := by simp [World.cell?, hr8]
      have q1 : W8.cell? ⟨wc.heap.size, 1, none⟩ = some (.float .f64 (pb o.pr)) := by simp [World.cell?, hr8]
      have q2 : W8.cell? ⟨wc.heap.size, 2, none⟩ = some (.bool o.st) := by simp [World.cell?, hr8]
      have q3 : W8.cell? ⟨wc.heap.size, 3, none⟩ = some (.int .i64 hops) := by simp [World.cell?, hr8]
      have q4 : W8.cell? ⟨wc.heap.size, 4, none⟩ = some (.int .u64 seq) := by simp [World.cell?, hr8]
      have q5 : W8.cell? ⟨wc.heap.size, 5, none⟩ = some (.int .u64 0) := by simp [World.cell?, hr8]
      have hr8' : Hid _ := hr8
      obtain ⟨B2, hB2⟩ : ∃ B2, B2 = wc.heap.size := ⟨_, rfl⟩
      rw [← hB2] at hr8' q0 q1 q2 q3 q4 q5 hs8 hsz2
      obtain ⟨I, hI⟩ : ∃ I, I = idx L o.id := ⟨_, rfl⟩
      have HI : Hid _ := hI
      have hIn : I ≤ n := by have := idx_le L o.id; rw [HN.out] at this; omega
      have hel : ∀ k b, L[k]? = some b → ∃ g, a = some ⟨g, 0, none⟩ ∧ g < w.heap.size ∧ k < n ∧ ∀ j, j < 6 → W8.cell? ⟨g, k * 6 + j, none⟩ = b.cells[j]? := by
        intro k b hb
        obtain ⟨g, e1, e2, e3, e4⟩ := own_elem hown HN.out hb
        exact ⟨g, e1, e2, e3, fun j hj => (hb8.cell (p := ⟨g, k * 6 + j, none⟩) e2).trans (e4 j hj)⟩
      have HEL : Hid _ := hel
      have HB2 : Hid _ := hB2
      have m42' := (hb8.cell (p := ⟨M, 4, none⟩) hM).trans m4
      have m52' := (hb8.cell (p := ⟨M, 5, none⟩) hM).trans m5
      clear hI hel hr8 d0 d1 d2 hb2 n2 m52 m42
      rw [← hB2]
      clear hB2 hM2
      go_upto_block 0 with (fail)
      go_cut [9] (fun s9 wx => s9 = .int .i64 I ∧ ∃ q, wx = W8.drewN q)
      case first =>
        go_wp2
        go_loopw [9] (fun i wr => ∃ k : Nat, k ≤ I ∧ i = .int .i64 k ∧ ∃ q, wr = W8.drewN q) (fun i _ => n - (intOf i).toNat)
        case atStart => exact ⟨0, by omega, rfl, 0, rfl⟩
        case round =>
          obtain ⟨k, hk, rfl, q, rfl⟩ := hrel
          by_cases hkI : k < I
          · have hkn : (k : Int) < (n : Int) := by omega
            have hkl : k < L.length := by rw [HN.out]; omega
            obtain ⟨g, hag, hgl, _, hcells⟩ := HEL.out k L[k] (List.getElem?_eq_getElem hkl)
            subst hag
            have hne : L[k].id ≠ o.id := idx_before (L := L) (k := k) (by rw [← HI.out]; exact hkI) (List.getElem?_eq_getElem hkl)
            generalize L[k] = b at hcells hne
            have hid' : (b.id != o.id) = true := by simpa using hne
            have c0 : W8.cell? ⟨g, k * 6, none⟩ = some (.int .u64 b.id) := hcells 0 (by omega)
            clear hcells hne
            go_wp2
            go_quiet (fail)
            go_wp2
            go_roundw
            case rel => exact ⟨k + 1, by omega, by go_num, _, rfl⟩
            case measure => simp [intOf]; omega
          · have hkI : k = I := by omega
            subst hkI
            by_cases hkn : k < n
            · have hkn' : (k : Int) < (n : Int) := by omega
              have hkl : k < L.length := by rw [HN.out]; omega
              obtain ⟨g, hag, hgl, _, hcells⟩ := HEL.out k L[k] (List.getElem?_eq_getElem hkl)
              subst hag
              have he : L[k].id = o.id := idx_at (L := L) (by rw [← HI.out]; exact List.getElem?_eq_getElem hkl)
              generalize L[k] = b at hcells he
              have hid' : (b.id != o.id) = false := by simpa using he
              have c0 : W8.cell? ⟨g, k * 6, none⟩ = some (.int .u64 b.id) := hcells 0 (by omega)
              clear hcells he
              go_wp2
              go_quiet (fail)
              go_wp2
              go_meet
              case rel => exact ⟨rfl, _, drewNN _ _ _⟩
            · have hkn' : k = n := by omega
              subst hkn'
              have hd : decide ((k : Int) < (k : Int)) = false := by simp
              go_wp2
              go_quiet (fail)
              go_wp2
              go_meet
              case rel => exact ⟨rfl, _, drewNN _ _ _⟩
      case rest =>
        obtain ⟨rfl, q, rfl⟩ := hcut
        go_upto_block 2 with (fail)
        exact note_mid _ N M base n B2 I q L o hops seq a c w W8 hN hnr hfr hown hbase hgN HNT hgood hok HH HS hon rfl HN hn6 HSAME HEA hM hb8 hs8 hr8' hsz2 HI hIn m42' m52' HEL _ _ _ _ _ _ _ _ _ _ _ _ _ _ _ _ _ _ _ _ _ _ _ _ _ _ _ _ _ _ _ _ _ _ _ _ _ _ _ _ _ _ _ _ _ _ _ _ _ _ _ _ _ _ _ _ _ _ _ _ _ _ _ _ _ _ _ _ _ _ _ _ _ _ _ _ _ _ _ _ _ _ _ _ _ _ _ _ _ _ _ _ _ _ _ _ _ _ _ _ _ _ _ _ _ _ _ _ _ _ _ _ _ _ _ _ _ _ _ _ _ _ _ _ _ _ _ _ _ _ _ _ _ _ _ _ _ _ _ _ _ _ _ _ _ _ _ _ _ _ _ _ _ _ _ _ _ _ _ _ _ _ _ _ _ _ _ _ _ _ _ _ _ _ _ _ _ _ _ _ _ _ _ (by assumption)
end Go.Proofs.Ybulkawyi
