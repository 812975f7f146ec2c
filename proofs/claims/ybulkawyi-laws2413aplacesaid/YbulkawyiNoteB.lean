import Derived.Test.YbulkawyiNoteC
namespace Go.Proofs.Ybulkawyi
open Go.RowKit
set_option linter.unusedVariables false
attribute [local go_sem] run_store_float

set_option maxRecDepth 100000 in
set_option maxHeartbeats 16000000 in
theorem note_mid (full : Bool) (N M base n B2 I q : Nat) (L : List Nb) (o : Nb) (hops seq : Int) (a : Option Addr) (c : Nat) (w W8 : World) (hN : N < w.heap.size) (hnr : w.cell? ⟨N, 38, none⟩ = some (.slice a n c)) (hfr : w.frozen? ⟨N, 38, none⟩ = false)
    (hown : w.ownsRow base 48 6 (.slice a n c) n (flat L)) (hbase : base ≤ w.heap.size) (hgN : ∀ g, (Value.slice a n c).ownBlock = some g → g ≠ N) (HNT : Hid (N < base ∨ ∀ cur fr, w.heap[N]? ≠ some (.cells cur 48 fr))) (hgood : Good L) (hok : o.Ok) (HH : Hid (o.hops = hops)) (HS : Hid (o.seq = seq)) (hon : o.named = 0)
    (hfull : full = ((n : Int) == 6)) (HN : Hid (L.length = n)) (hn6 : n ≤ 6) (HSAME : Hid (∀ w', Below w.heap.size w w' → Noted N base w w' (Value.slice a n c).ownBlock L)) (HEA : Hid (early L o = false)) (hM : M < w.heap.size)
    (hb8 : Below w.heap.size w W8) (hs8 : B2 < W8.heap.size) (hr8' : Hid (W8.heap[B2]? = some (.cells #[.int .u64 o.id, .float .f64 (pb o.pr), .bool o.st, .int .i64 hops, .int .u64 seq, .int .u64 0] 48 (0, 0)))) (hsz2 : w.heap.size < B2) (HI : Hid (I = idx L o.id)) (hIn : I ≤ n)
    (m42 : W8.cell? ⟨M, 4, none⟩ = some (.int .u64 seq)) (m52 : W8.cell? ⟨M, 5, none⟩ = some (.int .i64 hops))
    (HEL : Hid (∀ k b, L[k]? = some b → ∃ g, a = some ⟨g, 0, none⟩ ∧ g < w.heap.size ∧ k < n ∧ ∀ j, j < 6 → W8.cell? ⟨g, k * 6 + j, none⟩ = b.cells[j]?)) (u2 u3 u4 u7 u10 u11 u12 u13 u14 u15 u16 u17 u18 u19 u20 u21 u22 u23 u24 u25 u26 u27 u28 u29 u30 u31 u32 u33 u34 u35 u36 u37 u38 u39 u40 u41 u42 u43 u44 u45 u46 u47 u48 u49 u50 u51 u52 u53 u54 u55 u56 u57 u58 u59 u60 u61 u62 u63 u64 u65 u66 u67 u68 u69 u70 u71 u72 u73 u74 u75 u76 u77 u78 u79 u80 u81 u82 u83 u84 u85 u86 u87 u88 u89 u90 u91 u92 u93 u94 u95 u96 u97 u98 u99 u100 u101 u102 u103 u104 u105 u106 u107 u108 u109 u110 u111 u112 u113 u114 u115 u116 u117 u118 u119 u120 u121 u122 u123 u124 u125 u126 u127 u128 u129 u130 u131 u132 u133 u134 u135 u136 u137 u138 u139 u140 u141 u142 u143 u144 u145 u146 u147 u148 u149 u150 u151 u152 u153 u154 u155 u156 u157 u158 u159 u160 u161 u162 u163 u164 u165 u166 u167 u168 u169 u170 u171 u172 u173 u174 u175 u176 u177 u178 u179 u180 u181 u182 u183 u184 u185 u186 u187 : Value)
    (K : Act → World → Prop) (hK : ∀ a_1 w_1, Code.wp Yba.prog (secondOf (secondOf (secondOf (secondOf (secondOf (secondOf (secondOf (secondOf (secondOf (Yba.f9.body.getD .skip)))))))))) (bodyPost Yba.prog Yba.f9 fun e w' => e = .returned (.tuple #[]) ∧ Noted N base w w' (Value.slice a n c).ownBlock (noteL L o)) a_1 w_1 → K a_1 w_1) :
    Code.wp Yba.prog (firstOf (secondOf (secondOf (secondOf (secondOf (secondOf (secondOf (secondOf (secondOf (Yba.f9.body.getD .skip)))))))))) (Exit.then K (bodyPost Yba.prog Yba.f9 fun e w' => e = .returned (.tuple #[]) ∧ Noted N base w w' (Value.slice a n c).ownBlock (noteL L o))) { tmps := #[.pointer (some ⟨N, 0, none⟩), .pointer (some ⟨M, 0, none⟩), u2, u3, u4, .slice a n c, .bool full, u7, .pointer (some ⟨B2, 0, none⟩), .int .i64 I, u10, u11, u12, u13, u14, u15, u16, u17, u18, u19, u20, u21, u22, u23, u24, u25, u26, u27, u28, u29, u30, u31, u32, u33, u34, u35, u36, u37, u38, u39, u40, u41, u42, u43, u44, u45, u46, u47, u48, u49, u50, u51, u52, u53, u54, u55, u56, u57, u58, u59, u60, u61, u62, u63, u64, u65, u66, u67, u68, u69, u70, u71, u72, u73, u74, u75, u76, u77, u78, u79, u80, u81, u82, u83, u84, u85, u86, u87, u88, u89, u90, u91, u92, u93, u94, u95, u96, u97, u98, u99, u100, u101, u102, u103, u104, u105, u106, u107, u108, u109, u110, u111, u112, u113, u114, u115, u116, u117, u118, u119, u120, u121, u122, u123, u124, u125, u126, u127, u128, u129, u130, u131, u132, u133, u134, u135, u136, u137, u138, u139, u140, u141, u142, u143, u144, u145, u146, u147, u148, u149, u150, u151, u152, u153, u154, u155, u156, u157, u158, u159, u160, u161, u162, u163, u164, u165, u166, u167, u168, u169, u170, u171, u172, u173, u174, u175, u176, u177, u178, u179, u180, u181, u182, u183, u184, u185, u186, u187], defers := [] } (W8.drewN q) := by
  have q0 : W8.cell? ⟨B2, 0, none⟩ = some (.int .u64 o.id) := by simp [World.cell?, hr8'.out]
  have q1 : W8.cell? ⟨B2, 1, none⟩ = some (.float .f64 (pb o.pr)) := by simp [World.cell?, hr8'.out]
  have q2 : W8.cell? ⟨B2, 2, none⟩ = some (.bool o.st) := by simp [World.cell?, hr8'.out]
  have q3 : W8.cell? ⟨B2, 3, none⟩ = some (.int .i64 hops) := by simp [World.cell?, hr8'.out]
  have q4 : W8.cell? ⟨B2, 4, none⟩ = some (.int .u64 seq) := by simp [World.cell?, hr8'.out]
  have q5 : W8.cell? ⟨B2, 5, none⟩ = some (.int .u64 0) := by simp [World.cell?, hr8'.out]
  obtain ⟨T, hT⟩ : ∃ T, T = (firstOf (secondOf (secondOf (secondOf (secondOf (secondOf (secondOf (secondOf (secondOf (Yba.f9.body.getD .skip)))))))))) := ⟨_, rfl⟩
  rw [← hT]
  dsimp only [Yba.f9, Option.getD, secondOf, firstOf] at hT
  subst hT
  subst hfull
  dsimp only
  go_cut [5] (fun s5 wx => s5 = .slice a (rest L o).length c ∧ wx.ownsRow base 48 6 (.slice a (rest L o).length c) (rest L o).length (flat (rest L o)) ∧ w.grownBy wx (Value.slice a n c).ownBlock ∧ B2 < wx.heap.size ∧
    Hid (wx.heap[B2]? = some (.cells #[.int .u64 o.id, .float .f64 (pb o.pr), .bool o.st, .int .i64 hops, .int .u64 seq, .int .u64 0] 48 (0, 0))) ∧ Hid (noteL L o = ins (rest L o) o))
  case first =>
    by_cases hIl : I < n
    · have hIn' : (I : Int) < (n : Int) := by omega
      have hkl : I < L.length := by rw [HN.out]; omega
      obtain ⟨b, hLb⟩ : ∃ b, L[I]? = some b := ⟨_, List.getElem?_eq_getElem hkl⟩
      obtain ⟨g, hag, hgl, _, hcells⟩ := HEL.out I b hLb
      subst hag
      have HBid : Hid (b.id = o.id) := idx_at (L := L) (by rw [← HI.out]; exact hLb)
      have hbok := hgood.ok b (List.mem_of_getElem? hLb)
      have c0 : W8.cell? ⟨g, I * 6, none⟩ = some (.int .u64 b.id) := hcells 0 (by omega)
      have c1 : W8.cell? ⟨g, I * 6 + 1, none⟩ = some (.float .f64 (pb b.pr)) := hcells 1 (by omega)
      have c2 : W8.cell? ⟨g, I * 6 + 2, none⟩ = some (.bool b.st) := hcells 2 (by omega)
      have c3 : W8.cell? ⟨g, I * 6 + 3, none⟩ = some (.int .i64 b.hops) := hcells 3 (by omega)
      have c4 : W8.cell? ⟨g, I * 6 + 4, none⟩ = some (.int .u64 b.seq) := hcells 4 (by omega)
      have hnl : Hid (noteL L o = if o.seq < b.seq then L else if b.hops == o.hops && candEq b o then L.set (idx L o.id) { b with seq := o.seq } else ins (rest L o) o) := by
        show _ = _
        unfold noteL
        rw [HEA.out, ← HI.out, hLb]
        rfl
      have HLB : Hid _ := hLb
      clear hcells hLb
      by_cases hsq : seq < b.seq
      · have hds : decide (seq < b.seq) = true := by simpa using hsq
        have hfin : Hid (∀ w', Below w.heap.size w w' → Noted N base w w' (Value.slice (some ⟨g, 0, none⟩) n c).ownBlock (noteL L o)) := by
          intro w' hb'
          rw [hnl.out, if_pos (by rw [HS.out]; exact hsq)]; exact HSAME.out w' hb'
        go_wp2
        go_quiet (fail)
        go_wp2
        refine bodyPost_ret (results_none rfl _ _ _) rfl ?_
        exact ⟨rfl, hfin.out _ (bdrew (bdrew hb8 _) _)⟩
      · have hds : decide (seq < b.seq) = false := by simpa using hsq
        have hnl2 : Hid (noteL L o = if b.hops == o.hops && candEq b o then L.set (idx L o.id) { b with seq := o.seq } else ins (rest L o) o) := by
          show _ = _
          rw [hnl.out, if_neg (by rw [HS.out]; exact hsq)]
        have hrest : Hid (rest L o = L.eraseIdx I) := by
          show _ = _
          unfold rest
          rw [← HI.out, HN.out, if_pos hIl]
        cases hmt : (b.hops == hops && candEq b o) with
        | true =>
          obtain ⟨hmh, hmc⟩ := Bool.and_eq_true_iff.1 hmt
          have hcd : ∀ wx, (binOp .eql 36 (.agg #[.int .u64 b.id, .float .f64 (pb b.pr), .bool b.st]) (.agg #[.int .u64 o.id, .float .f64 (pb o.pr), .bool o.st])).run Yba.prog wx = .ok (.bool true) wx := fun wx => by
            rw [eqCand, cand_pb hbok.pr0 hbok.pr3 hok.pr0 hok.pr3]
            unfold candEq at hmc; rw [hmc]
          have hfin : Hid (∀ W, Below w.heap.size w W → Noted N base w (W.setCell ⟨g, I * 6 + 4, none⟩ (.int .u64 seq)) (Value.slice (some ⟨g, 0, none⟩) n c).ownBlock (noteL L o)) := by
            intro W hbW
            rw [hnl2.out, HH.out, hmt, ← HI.out]
            have := noted_seq (s := o.seq) hbW hN hnr hfr hown HN.out HLB.out (hgN g rfl)
            rw [HS.out] at this ⊢
            exact this
          have hf4 : W8.frozen? ⟨g, I * 6 + 4, none⟩ = false := (hb8.frozen (p := ⟨g, I * 6 + 4, none⟩) hgl).trans (hown.frozenAt _)
          clear hmt hmc
          go_wp2
          go_quiet (fail)
          go_wp2
          go_quiet (fail)
          go_wp2
          refine bodyPost_ret (results_none rfl _ _ _) rfl ?_
          exact ⟨rfl, hfin.out _ (bdrew hb8 _)⟩
        | false =>
          have hmt' : Hid (noteL L o = ins (rest L o) o) := by
            show _ = _
            rw [hnl2.out, HH.out, hmt]; rfl
          have hdel : Hid (∀ q', Calls Yba.prog 19 #[.slice (some ⟨g, 0, none⟩) n c, .int .i64 (I : Int), .int .i64 ((I : Int) + 1)] (W8.drewN q') fun e w' => e = .returned (.slice (some ⟨g, 0, none⟩) (rest L o).length c) ∧ w'.ownsRow base 48 6 (.slice (some ⟨g, 0, none⟩) (rest L o).length c) (rest L o).length (flat (rest L o)) ∧ w.grownBy w' (some g) ∧ B2 < w'.heap.size ∧ Hid (w'.heap[B2]? = some (.cells #[.int .u64 o.id, .float .f64 (pb o.pr), .bool o.st, .int .i64 hops, .int .u64 seq, .int .u64 0] 48 (0, 0)))) := by
            intro q'
            obtain ⟨n1, hn1⟩ : ∃ n1, n = n1 + 1 := ⟨n - 1, by omega⟩
            have hel : (rest L o).length = n1 := by rw [hrest.out, List.length_eraseIdx_of_lt hkl, HN.out, hn1]; rfl
            have hown8 : (W8.drewN q').ownsRow base 48 6 (.slice (some ⟨g, 0, none⟩) n c) n (flat L) := own_any hown (fun g' hg' => hb8.block g' (hown.lt g' hg').2)
            have hfl : flat (rest L o) = (flat L).take (I * 6) ++ (flat L).drop ((I + 1) * 6) := by
              rw [hrest.out, List.eraseIdx_eq_take_drop_succ, flat_append, flat_take, flat_drop]
            subst hn1
            refine (delete_calls base n1 I g c (flat L) (W8.drewN q') hn6 hIl _ rfl hown8 (flat_one L)).mono ?_
            rintro e w' ⟨rfl, ho', hg'⟩
            rw [hel, hfl]
            have hlt := hg'.size
            refine ⟨rfl, ho', ⟨hg'.os.trans hb8.os, hg'.tape.trans hb8.tape, hg'.output.trans hb8.output, Nat.le_trans hb8.size hg'.size, fun k hk hk' => (hg'.block k (Nat.lt_of_lt_of_le hk hb8.size) hk').trans (hb8.block k hk)⟩, Nat.lt_of_lt_of_le hs8 hlt, ?_⟩
            show _ = _
            rw [hg'.block B2 hs8 (by simp; omega)]
            exact hr8'.out
          cases hmh : (b.hops == hops) with
          | true =>
            have hcd : ∀ wx, (binOp .eql 36 (.agg #[.int .u64 b.id, .float .f64 (pb b.pr), .bool b.st]) (.agg #[.int .u64 o.id, .float .f64 (pb o.pr), .bool o.st])).run Yba.prog wx = .ok (.bool false) wx := fun wx => by
              rw [eqCand, cand_pb hbok.pr0 hbok.pr3 hok.pr0 hok.pr3]
              rw [hmh, Bool.true_and] at hmt
              unfold candEq at hmt; rw [hmt]
            clear hmt
            go_wp2
            go_quiet (fail)
            go_wp2
            go_quiet (fail)
            go_wp2_with fail
            refine Calls.mono (hdel.out _) ?_
            rintro e w5 ⟨rfl, ho5, hg5, hs5, hr5⟩
            go_wp2
            go_meet
            case rel => exact ⟨rfl, ho5, hg5, hs5, hr5, hmt'⟩
          | false =>
            clear hmt
            go_wp2
            go_quiet (fail)
            go_wp2
            go_quiet (fail)
            go_wp2_with fail
            refine Calls.mono (hdel.out _) ?_
            rintro e w5 ⟨rfl, ho5, hg5, hs5, hr5⟩
            go_wp2
            go_meet
            case rel => exact ⟨rfl, ho5, hg5, hs5, hr5, hmt'⟩
    · have hIn2 : I = n := by omega
      subst hIn2
      have hd : decide ((I : Int) < (I : Int)) = false := by simp
      have hnone : L[idx L o.id]? = none := by rw [← HI.out]; exact List.getElem?_eq_none (by rw [HN.out]; omega)
      have hnl : Hid (noteL L o = ins (rest L o) o) := by
        show _ = _
        unfold noteL
        rw [HEA.out, hnone]
        rfl
      have hown8 : W8.ownsRow base 48 6 (.slice a I c) I (flat L) := own_any hown (fun g' hg' => hb8.block g' (hown.lt g' hg').2)
      have hg8 : w.grownBy W8 (Value.slice a I c).ownBlock := ⟨hb8.os, hb8.tape, hb8.output, hb8.size, fun k hk _ => hb8.block k hk⟩
      have HOWN : Hid _ := hown8
      have HG8 : Hid _ := hg8
      clear hnone hown8 hg8
      by_cases h6 : I = 6
      · have hrest : Hid (rest L o = L.take 5) := by
          show _ = _
          unfold rest
          rw [← HI.out, HN.out, if_neg (by omega), if_pos h6]
        have hrl : Hid ((rest L o).length = 5) := by show _ = _; rw [hrest.out, List.length_take, HN.out, h6]; rfl
        subst h6
        obtain ⟨g, rfl⟩ : ∃ g, a = some ⟨g, 0, none⟩ := by
          rcases hown.2 with ⟨h2, h3⟩ | ⟨g', cap', cur, e1, _⟩
          · cases h2
          · cases e1; exact ⟨g', rfl⟩
        have hc6 : (6 : Nat) ≤ c := by
          rcases hown.2 with ⟨h2, _⟩ | ⟨g', cap', cur, e1, e2, e3, e4, _⟩
          · cases h2
          · cases e1; exact e4
        have hocut : Hid (W8.ownsRow base 48 6 (.slice (some ⟨g, 0, none⟩) (rest L o).length c) (rest L o).length (flat (rest L o))) := by
          show World.ownsRow _ _ _ _ _ _ _
          rw [hrl.out, hrest.out, ← flat_take]
          exact own_cut HOWN.out (by omega)
        go_wp2
        go_quiet (fail)
        go_wp2
        go_quiet (fail)
        go_wp2
        go_meet
        case rel => exact ⟨by rw [hrl.out], hocut.out, ⟨HG8.out.os, HG8.out.tape, HG8.out.output, HG8.out.size, HG8.out.block⟩, hs8, hr8', hnl⟩
      · have hd6 : ((I : Int) == 6) = false := by rw [beq_eq_false_iff_ne]; omega
        have hrest : Hid (rest L o = L) := by
          show _ = _
          unfold rest
          rw [← HI.out, HN.out, if_neg (by omega), if_neg h6]
        have hrl : Hid ((rest L o).length = I) := by show _ = _; rw [hrest.out, HN.out]
        have hocut : Hid (W8.ownsRow base 48 6 (.slice a (rest L o).length c) (rest L o).length (flat (rest L o))) := by
          show World.ownsRow _ _ _ _ _ _ _
          rw [hrl.out, hrest.out]
          exact HOWN.out
        go_wp2
        go_quiet (fail)
        go_wp2
        go_quiet (fail)
        go_wp2
        go_meet
        case rel => exact ⟨by rw [hrl.out], hocut.out, ⟨HG8.out.os, HG8.out.tape, HG8.out.output, HG8.out.size, HG8.out.block⟩, hs8, hr8', hnl⟩
  case rest =>
    obtain ⟨rfl, hox, hgx, hsx, hrx, hnl⟩ := hcut
    have hrg : Good (rest L o) := good_sub hgood (rest_sub L o)
    have hrl := rest_len (o := o) hgood
    refine hK _ _ ?_
    exact note_tail N M base n (rest L o).length B2 L (rest L o) o hops seq a c w _ hN hnr hfr hbase hgN HNT hok HH HS hon rfl hox hgx hsx hrx hnl hrg hrl _ _ _ _ _ _ _ _ _ _ _ _ _ _ _ _ _ _ _ _ _ _ _ _ _ _ _ _ _ _ _ _ _ _ _ _ _ _ _ _ _ _ _ _ _ _ _ _ _ _ _ _ _ _ _ _ _ _ _ _ _ _ _ _ _ _ _ _ _ _ _ _ _ _ _ _ _ _ _ _ _ _ _ _ _ _ _ _ _ _ _ _ _ _ _ _ _ _ _ _ _ _ _ _ _ _ _ _ _ _ _ _ _ _ _ _ _ _ _ _ _ _ _ _ _ _ _ _ _ _ _ _ _ _ _ _ _ _ _ _ _ _ _ _ _ _ _ _ _ _ _ _ _ _ _ _ _ _ _ _ _ _ _ _ _ _ _ _ _ _ _ _ _ _ _ _ _ _ _ _ _ _ _ _
end Go.Proofs.Ybulkawyi
