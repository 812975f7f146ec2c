import Derived.Test.YbulkawyiNoteP
namespace Go.Proofs.Ybulkawyi
open Go.RowKit
set_option linter.unusedVariables false
attribute [local go_sem] run_store_float

set_option maxRecDepth 100000 in
set_option maxHeartbeats 16000000 in
theorem note_tail (N M base n m B2 : Nat) (L L' : List Nb) (o : Nb) (hops seq : Int) (a : Option Addr) (c : Nat) (w wx : World) (hN : N < w.heap.size) (hnr : w.cell? ⟨N, 38, none⟩ = some (.slice a n c)) (hfr : w.frozen? ⟨N, 38, none⟩ = false)
    (hbase : base ≤ w.heap.size) (hgN : ∀ g, (Value.slice a n c).ownBlock = some g → g ≠ N) (HNT : Hid (N < base ∨ ∀ cur fr, w.heap[N]? ≠ some (.cells cur 48 fr))) (hok : o.Ok) (HH : Hid (o.hops = hops)) (HS : Hid (o.seq = seq)) (hon : o.named = 0)
    (hm : m = L'.length) (hox : wx.ownsRow base 48 6 (.slice a m c) m (flat L')) (hgx : w.grownBy wx (Value.slice a n c).ownBlock) (hsx : B2 < wx.heap.size)
    (hrx : Hid (wx.heap[B2]? = some (.cells #[.int .u64 o.id, .float .f64 (pb o.pr), .bool o.st, .int .i64 hops, .int .u64 seq, .int .u64 0] 48 (0, 0)))) (hnl : Hid (noteL L o = ins L' o)) (hrg : Good L') (hrl : m ≤ 5) (u2 u3 u4 u6 u7 u9 u10 u11 u12 u13 u14 u15 u16 u17 u18 u19 u20 u21 u22 u23 u24 u25 u26 u27 u28 u29 u30 u31 u32 u33 u34 u35 u36 u37 u38 u39 u40 u41 u42 u43 u44 u45 u46 u47 u48 u49 u50 u51 u52 u53 u54 u55 u56 u57 u58 u59 u60 u61 u62 u63 u64 u65 u66 u67 u68 u69 u70 u71 u72 u73 u74 u75 u76 u77 u78 u79 u80 u81 u82 u83 u84 u85 u86 u87 u88 u89 u90 u91 u92 u93 u94 u95 u96 u97 u98 u99 u100 u101 u102 u103 u104 u105 u106 u107 u108 u109 u110 u111 u112 u113 u114 u115 u116 u117 u118 u119 u120 u121 u122 u123 u124 u125 u126 u127 u128 u129 u130 u131 u132 u133 u134 u135 u136 u137 u138 u139 u140 u141 u142 u143 u144 u145 u146 u147 u148 u149 u150 u151 u152 u153 u154 u155 u156 u157 u158 u159 u160 u161 u162 u163 u164 u165 u166 u167 u168 u169 u170 u171 u172 u173 u174 u175 u176 u177 u178 u179 u180 u181 u182 u183 u184 u185 u186 u187 : Value) :
    Code.wp Yba.prog (secondOf (secondOf (secondOf (secondOf (secondOf (secondOf (secondOf (secondOf (secondOf (Yba.f9.body.getD .skip)))))))))) (bodyPost Yba.prog Yba.f9 fun e w' => e = .returned (.tuple #[]) ∧ Noted N base w w' (Value.slice a n c).ownBlock (noteL L o)) { tmps := #[.pointer (some ⟨N, 0, none⟩), .pointer (some ⟨M, 0, none⟩), u2, u3, u4, .slice a m c, u6, u7, .pointer (some ⟨B2, 0, none⟩), u9, u10, u11, u12, u13, u14, u15, u16, u17, u18, u19, u20, u21, u22, u23, u24, u25, u26, u27, u28, u29, u30, u31, u32, u33, u34, u35, u36, u37, u38, u39, u40, u41, u42, u43, u44, u45, u46, u47, u48, u49, u50, u51, u52, u53, u54, u55, u56, u57, u58, u59, u60, u61, u62, u63, u64, u65, u66, u67, u68, u69, u70, u71, u72, u73, u74, u75, u76, u77, u78, u79, u80, u81, u82, u83, u84, u85, u86, u87, u88, u89, u90, u91, u92, u93, u94, u95, u96, u97, u98, u99, u100, u101, u102, u103, u104, u105, u106, u107, u108, u109, u110, u111, u112, u113, u114, u115, u116, u117, u118, u119, u120, u121, u122, u123, u124, u125, u126, u127, u128, u129, u130, u131, u132, u133, u134, u135, u136, u137, u138, u139, u140, u141, u142, u143, u144, u145, u146, u147, u148, u149, u150, u151, u152, u153, u154, u155, u156, u157, u158, u159, u160, u161, u162, u163, u164, u165, u166, u167, u168, u169, u170, u171, u172, u173, u174, u175, u176, u177, u178, u179, u180, u181, u182, u183, u184, u185, u186, u187], defers := [] } wx := by
  have hsL := hgx.size
  obtain ⟨P, hP⟩ : ∃ P, P = pos L' o := ⟨_, rfl⟩
  have hPm : P ≤ m := by have := pos_le L' o; omega
  have hc0 : o.cells = [.int .u64 o.id, .float .f64 (pb o.pr), .bool o.st, .int .i64 hops, .int .u64 seq, .int .u64 0] := by
    unfold Nb.cells; rw [HH.out, HS.out, hon]
  have HC0 : Hid _ := hc0
  clear hc0
  have HM : Hid _ := hm
  have HP : Hid _ := hP
  have HOX : Hid _ := hox
  have hel : ∀ k b wr, Below wx.heap.size wx wr → L'[k]? = some b → ∃ g, a = some ⟨g, 0, none⟩ ∧ g < wr.heap.size ∧ k < m ∧ b.Ok ∧ ∀ j, j < 6 → wr.cell? ⟨g, k * 6 + j, none⟩ = b.cells[j]? := by
    intro k b wr hbr hb
    obtain ⟨g, e1, e2, e3, e4⟩ := own_elem HOX.out HM.out.symm hb
    exact ⟨g, e1, Nat.lt_of_lt_of_le e2 hbr.size, e3, hrg.ok b (List.mem_of_getElem? hb), fun j hj => (hbr.cell (p := ⟨g, k * 6 + j, none⟩) e2).trans (e4 j hj)⟩
  have HEL2 : Hid _ := hel
  have hob : ∀ wr, Below wx.heap.size wx wr → wr.cell? ⟨B2, 0, none⟩ = some (.int .u64 o.id) ∧ wr.cell? ⟨B2, 1, none⟩ = some (.float .f64 (pb o.pr)) ∧ wr.cell? ⟨B2, 2, none⟩ = some (.bool o.st) ∧ wr.cell? ⟨B2, 3, none⟩ = some (.int .i64 hops) ∧ wr.cell? ⟨B2, 4, none⟩ = some (.int .u64 seq) ∧ wr.cell? ⟨B2, 5, none⟩ = some (.int .u64 0) := by
    intro wr hbr
    have hbl : wr.heap[B2]? = some (.cells #[.int .u64 o.id, .float .f64 (pb o.pr), .bool o.st, .int .i64 hops, .int .u64 seq, .int .u64 0] 48 (0, 0)) := (hbr.block B2 hsx).trans hrx.out
    refine ⟨?_, ?_, ?_, ?_, ?_, ?_⟩ <;> simp [World.cell?, hbl]
  have HOB : Hid _ := hob
  have hbf : ∀ (b : Nb) (r : Bool), b.Ok → (b.key < o.key ↔ r = true) → ∀ wz : World, Calls Yba.prog 10 #[.agg #[.int .u64 b.id, .float .f64 (pb b.pr), .bool b.st, .int .i64 b.hops, .int .u64 b.seq, .int .u64 b.named], .agg #[.int .u64 o.id, .float .f64 (pb o.pr), .bool o.st, .int .i64 hops, .int .u64 seq, .int .u64 0]] wz fun e w' => e = .returned (.bool r) ∧ Below wz.heap.size wz w' := by
    intro b r hbo hr wz
    have h := before_calls hbo hok wz
    unfold Nb.val at h
    rw [HH.out, HS.out, hon] at h
    have : decide (b.key < o.key) = r := by rw [Bool.eq_iff_iff, decide_eq_true_iff]; exact hr
    rw [this] at h
    exact h
  have HBF : Hid _ := hbf
  clear hel hob hbf hox hm hP hrg
  obtain ⟨T, hT⟩ : ∃ T, T = (secondOf (secondOf (secondOf (secondOf (secondOf (secondOf (secondOf (secondOf (secondOf (Yba.f9.body.getD .skip)))))))))) := ⟨_, rfl⟩
  rw [← hT]
  dsimp only [Yba.f9, Option.getD, secondOf] at hT
  subst hT
  go_upto_block 3 with (fail)
  go_cut [9] (fun s9 wy => s9 = .int .i64 P ∧ Below wx.heap.size wx wy)
  case first =>
    go_wp2
    go_loopw [9] (fun i wr => ∃ k : Nat, k ≤ P ∧ i = .int .i64 k ∧ Below wx.heap.size wx wr) (fun i _ => m - (intOf i).toNat)
    case atStart => exact ⟨0, by omega, rfl, Below.refl _ _⟩
    case round =>
      obtain ⟨k, hk, rfl, hbr⟩ := hrel
      by_cases hkm : k < m
      · have hkm' : (k : Int) < (m : Int) := by omega
        have hkl : k < L'.length := by rw [← HM.out]; exact hkm
        obtain ⟨b, hLb⟩ : ∃ b, L'[k]? = some b := ⟨_, List.getElem?_eq_getElem hkl⟩
        obtain ⟨g, hag, hgl, _, hbo, hcells⟩ := HEL2.out k b wr hbr hLb
        subst hag
        have c0 : wr.cell? ⟨g, k * 6, none⟩ = some (.int .u64 b.id) := hcells 0 (by omega)
        have c1 : wr.cell? ⟨g, k * 6 + 1, none⟩ = some (.float .f64 (pb b.pr)) := hcells 1 (by omega)
        have c2 : wr.cell? ⟨g, k * 6 + 2, none⟩ = some (.bool b.st) := hcells 2 (by omega)
        have c3 : wr.cell? ⟨g, k * 6 + 3, none⟩ = some (.int .i64 b.hops) := hcells 3 (by omega)
        have c4 : wr.cell? ⟨g, k * 6 + 4, none⟩ = some (.int .u64 b.seq) := hcells 4 (by omega)
        have c5 : wr.cell? ⟨g, k * 6 + 5, none⟩ = some (.int .u64 b.named) := hcells 5 (by omega)
        obtain ⟨q0, q1, q2, q3, q4, q5⟩ := HOB.out wr hbr
        have hBr : B2 < wr.heap.size := Nat.lt_of_lt_of_le hsx hbr.size
        have HKEEP : Hid (∀ (q : Nat) (w2 : World), Below wr.heap.size (wr.drewN q) w2 → Hid (Below wx.heap.size wx w2) ∧ (w2.cell? ⟨g, k * 6, none⟩ = some (.int .u64 b.id) ∧ w2.cell? ⟨g, k * 6 + 1, none⟩ = some (.float .f64 (pb b.pr)) ∧ w2.cell? ⟨g, k * 6 + 2, none⟩ = some (.bool b.st) ∧ w2.cell? ⟨g, k * 6 + 3, none⟩ = some (.int .i64 b.hops) ∧ w2.cell? ⟨g, k * 6 + 4, none⟩ = some (.int .u64 b.seq) ∧ w2.cell? ⟨g, k * 6 + 5, none⟩ = some (.int .u64 b.named) ∧ w2.cell? ⟨B2, 0, none⟩ = some (.int .u64 o.id) ∧ w2.cell? ⟨B2, 1, none⟩ = some (.float .f64 (pb o.pr)) ∧ w2.cell? ⟨B2, 2, none⟩ = some (.bool o.st) ∧ w2.cell? ⟨B2, 3, none⟩ = some (.int .i64 hops) ∧ w2.cell? ⟨B2, 4, none⟩ = some (.int .u64 seq) ∧ w2.cell? ⟨B2, 5, none⟩ = some (.int .u64 0))) := by
          intro q w2 hb2
          have k2 : ∀ b' o', b' < wr.heap.size → w2.cell? ⟨b', o', none⟩ = wr.cell? ⟨b', o', none⟩ := fun b' o' h => hb2.cell (p := ⟨b', o', none⟩) h
          exact ⟨(bdrew hbr q).trans (hb2.mono hbr.size), (k2 _ _ hgl).trans c0, (k2 _ _ hgl).trans c1, (k2 _ _ hgl).trans c2, (k2 _ _ hgl).trans c3, (k2 _ _ hgl).trans c4, (k2 _ _ hgl).trans c5, (k2 _ _ hBr).trans q0, (k2 _ _ hBr).trans q1, (k2 _ _ hBr).trans q2, (k2 _ _ hBr).trans q3, (k2 _ _ hBr).trans q4, (k2 _ _ hBr).trans q5⟩
        by_cases hkP : k < P
        · have hcall := fun wz => HBF.out b true hbo (by simp; exact pos_before (L := L') (k := k) (by rw [← HP.out]; exact hkP) hLb) wz
          have HC : Hid _ := hcall
          clear hcall hLb hcells hbo
          go_wp2
          go_region_held3 (fun w' => w'.cell? ⟨g, k * 6, none⟩ = some (.int .u64 b.id) ∧ w'.cell? ⟨g, k * 6 + 1, none⟩ = some (.float .f64 (pb b.pr)) ∧ w'.cell? ⟨g, k * 6 + 2, none⟩ = some (.bool b.st) ∧ w'.cell? ⟨g, k * 6 + 3, none⟩ = some (.int .i64 b.hops) ∧ w'.cell? ⟨g, k * 6 + 4, none⟩ = some (.int .u64 b.seq) ∧ w'.cell? ⟨g, k * 6 + 5, none⟩ = some (.int .u64 b.named) ∧ w'.cell? ⟨B2, 0, none⟩ = some (.int .u64 o.id) ∧ w'.cell? ⟨B2, 1, none⟩ = some (.float .f64 (pb o.pr)) ∧ w'.cell? ⟨B2, 2, none⟩ = some (.bool o.st) ∧ w'.cell? ⟨B2, 3, none⟩ = some (.int .i64 hops) ∧ w'.cell? ⟨B2, 4, none⟩ = some (.int .u64 seq) ∧ w'.cell? ⟨B2, 5, none⟩ = some (.int .u64 0))
            (first | exact ⟨c0, c1, c2, c3, c4, c5, q0, q1, q2, q3, q4, q5⟩ | assumption) ((go_at_call 10; refine Calls.mono (HC.out _) ?_; rintro e w2 ⟨rfl, hb2⟩; have hS2 := HKEEP.out 1 w2 hb2; clear hb2; have HB3 := hS2.1; have hS3 := hS2.2; clear hS2))
          go_wp2
          go_roundw
          case rel => exact ⟨k + 1, by omega, by go_num, HB3.out⟩
          case measure => simp [intOf]; omega
        · have hkP' : k = P := by omega
          subst hkP'
          have hcall := fun wz => HBF.out b false hbo (by simp; exact Int.not_lt.1 (pos_at (L := L') (by rw [← HP.out]; exact hLb))) wz
          have HC : Hid _ := hcall
          clear hcall hLb hcells hbo
          go_wp2
          go_region_held3 (fun w' => w'.cell? ⟨g, k * 6, none⟩ = some (.int .u64 b.id) ∧ w'.cell? ⟨g, k * 6 + 1, none⟩ = some (.float .f64 (pb b.pr)) ∧ w'.cell? ⟨g, k * 6 + 2, none⟩ = some (.bool b.st) ∧ w'.cell? ⟨g, k * 6 + 3, none⟩ = some (.int .i64 b.hops) ∧ w'.cell? ⟨g, k * 6 + 4, none⟩ = some (.int .u64 b.seq) ∧ w'.cell? ⟨g, k * 6 + 5, none⟩ = some (.int .u64 b.named) ∧ w'.cell? ⟨B2, 0, none⟩ = some (.int .u64 o.id) ∧ w'.cell? ⟨B2, 1, none⟩ = some (.float .f64 (pb o.pr)) ∧ w'.cell? ⟨B2, 2, none⟩ = some (.bool o.st) ∧ w'.cell? ⟨B2, 3, none⟩ = some (.int .i64 hops) ∧ w'.cell? ⟨B2, 4, none⟩ = some (.int .u64 seq) ∧ w'.cell? ⟨B2, 5, none⟩ = some (.int .u64 0))
            (first | exact ⟨c0, c1, c2, c3, c4, c5, q0, q1, q2, q3, q4, q5⟩ | assumption) ((go_at_call 10; refine Calls.mono (HC.out _) ?_; rintro e w2 ⟨rfl, hb2⟩; have hS2 := HKEEP.out 1 w2 hb2; clear hb2; have HB3 := hS2.1; have hS3 := hS2.2; clear hS2))
          go_wp2
          go_meet
          case rel => exact ⟨rfl, HB3.out⟩
      · have hkm' : k = m := by omega
        have hPk : P = k := by omega
        subst hkm'
        have hd : decide ((k : Int) < (k : Int)) = false := by simp
        go_wp2
        go_quiet (fail)
        go_wp2
        go_meet
        case rel => exact ⟨by rw [hPk], bdrew hbr _⟩
  case rest =>
    obtain ⟨rfl, hxy⟩ := hcut
    generalize wc = wy at *
    obtain ⟨q0, q1, q2, q3, q4, q5⟩ := HOB.out wy hxy
    have hlt2 : ∀ g', (Value.slice a m c).ownBlock = some g' → g' < wx.heap.size := fun g' hg' => (World.ownsRow.lt (Hid.out HOX) g' hg').2
    have hown' : (wy.alloc (.cells #[.int .u64 o.id, .float .f64 (pb o.pr), .bool o.st, .int .i64 hops, .int .u64 seq, .int .u64 0] 48)).ownsRow base 48 6 (.slice a m c) m (flat L') :=
      own_any (Hid.out HOX) (fun g' hg' => (Below.heap_alloc _ _ _ (Nat.lt_of_lt_of_le (hlt2 g' hg') hxy.size)).trans (hxy.block g' (hlt2 g' hg')))
    have hsy := hxy.size
    have hob2 : ∀ n', (Value.slice a n' c).ownBlock = (Value.slice a n c).ownBlock := by intro n'; cases a <;> rfl
    have hins := insert_calls base wy.heap.size m P c a (flat L') o.cells (wy.alloc (.cells #[.int .u64 o.id, .float .f64 (pb o.pr), .bool o.st, .int .i64 hops, .int .u64 seq, .int .u64 0] 48)) (by omega) hPm hown' (by simp; omega) rfl (by rw [HC0.out]; exact heap_alloc_new wy _)
      (fun g' hg' => by have := hlt2 g' hg'; omega) (cells_one o) (flat_one L')
    have HINS : Hid _ := hins
    have hfin : Hid (∀ g cap w6, w6.ownsRow base 48 6 (.slice (some ⟨g, 0, none⟩) (m + 1) cap) (m + 1) ((flat L').take (P * 6) ++ (o.cells ++ (flat L').drop (P * 6))) → (wy.alloc (.cells #[.int .u64 o.id, .float .f64 (pb o.pr), .bool o.st, .int .i64 hops, .int .u64 seq, .int .u64 0] 48)).grownBy w6 (Value.slice a m c).ownBlock →
        (∃ v, w6.cell? ⟨N, 38, none⟩ = some v) ∧ w6.frozen? ⟨N, 38, none⟩ = false ∧ Hid (Noted N base w (w6.setCell ⟨N, 38, none⟩ (.slice (some ⟨g, 0, none⟩) (m + 1) cap)) (Value.slice a n c).ownBlock (noteL L o))) := by
      intro g cap w6 ho6 hg6
      have hl : (ins L' o).length = m + 1 := by rw [ins_length, ← HM.out]
      have hf : (flat L').take (P * 6) ++ (o.cells ++ (flat L').drop (P * 6)) = flat (ins L' o) := by
        unfold ins
        rw [← HP.out, flat_append, flat_cons, flat_take, flat_drop]
      rw [hf, ← hl] at ho6
      rw [hob2] at hg6
      have := noted_ins hN ⟨_, hnr⟩ hfr hgN hgx hxy hg6 (.inr rfl) ho6 HNT.out
      rw [hl] at this
      rw [hnl.out]
      exact this
    clear hins hown' hob2 hsy hlt2
    go_wp2_with fail
    refine Calls.mono (HINS.out) ?_
    rintro e w6 ⟨g, cap, rfl, ho6, hg6⟩
    obtain ⟨⟨v6, hv6⟩, hf6, hno⟩ := hfin.out g cap w6 ho6 hg6
    clear ho6 hg6
    go_wp2
    go_end0
    exact ⟨rfl, hno.out⟩
end Go.Proofs.Ybulkawyi
