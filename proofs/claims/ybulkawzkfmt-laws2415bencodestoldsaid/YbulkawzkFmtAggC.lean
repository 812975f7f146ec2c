import Derived.Test.YbulkawzkFmtAggB
namespace Go.Proofs.YbulkawzkFmt
open Go.RowKit Go.Extern.Stop Go.Stop Go.Extern
set_option linter.unusedVariables false

theorem check_ok (F : Interp) (E : List Sg) (n c : Nat) (a : Option Addr) (w : World) (hF : F.answers w.tape) (hn : E.length = n) (hm : n ≤ 1000) (hr : RowS w a n E) (hall : ∀ e ∈ E, e.len = 64) :
    Calls Ybaf.prog 10 #[.slice a n c] w fun e w' => e = .returned .nilIface ∧ Below w.heap.size w w' := by
  refine (check_calls F E n c a w hF hn hm hr).mono ?_
  rintro e w' ⟨v, rfl, hck, hb⟩
  rcases hck with ⟨rfl, _⟩ | ⟨_, e, he, hl⟩
  · exact ⟨rfl, hb⟩
  · exact absurd (hall e he) hl

set_option maxRecDepth 100000 in
set_option maxHeartbeats 16000000 in
theorem ag0 (w0 wx : World) (B : Nat) (r : Option Nat) (M : Nat) (rep inst view : Int) (blk : List Value) (a a2 a3 : Option Addr) (n c n2 c2 n3 c3 : Nat) (V : List Vt) (zs : List Int) (bs : List Value) (XS : List Value) (NN : Nat) (hNN : NN ≤ 1024) (hm : Mc wx B r M rep inst view blk a a2 a3 n c n2 c2 n3 c3 V zs bs) (hB : B ≤ wx.heap.size) (hk0 : Kept B r w0 wx) (ab : Option Addr) (nb cb : Nat) (hnb : nb = NN) (hbuf : Buf B r wx (.slice ab nb cb) nb (XS)) (F : Interp) (hF : F.answers wx.tape) (hs : (n2 = 0 ∧ n3 = 0) ∨ n3 = 64) (u2 u3 u4 u5 u6 u7 u8 u9 u10 u11 u12 u13 u14 u15 u16 u17 u18 u19 u20 u21 u22 u23 u24 u25 u26 u27 u28 u29 u30 u31 u32 u33 u34 u35 u36 u37 u38 u39 u40 u41 u42 u43 u44 u45 u46 u47 u48 u49 u50 u51 u52 u53 u54 u55 u56 u57 u58 u59 u60 u61 u62 u63 u64 u65 u66 u67 u68 u69 u70 u71 u72 u73 u74 u75 u76 u77 u78 u79 u80 u81 u82 u83 u84 u85 u86 u87 u88 u89 u90 u91 u92 u93 u94 u95 u96 u97 u98 u99 u100 u101 u102 u103 u104 u105 u106 u107 u108 : Value) :
    Code.wp Ybaf.prog (Ybaf.f6.body.getD .skip) (bodyPost Ybaf.prog Ybaf.f6 fun e w' => ∃ v', e = .returned (.tuple #[v', .nilIface]) ∧ Buf B r w' v' ((NN + 8 + 48 + (4 + n * 72) + 4 + n2 * 8 + 4 + n3)) ((XS ++ be64 (IntKind.u64.wrap rep) ++ (be64 (IntKind.u64.wrap inst) ++ be64 view ++ blk) ++ (be32 n ++ encV V) ++ be32 n2 ++ encI zs ++ be32 n3 ++ bs)) ∧ Kept B r w0 w') { tmps := #[.slice ab nb cb, .pointer (some ⟨M, 0, none⟩), u2, u3, u4, u5, u6, u7, u8, u9, u10, u11, u12, u13, u14, u15, u16, u17, u18, u19, u20, u21, u22, u23, u24, u25, u26, u27, u28, u29, u30, u31, u32, u33, u34, u35, u36, u37, u38, u39, u40, u41, u42, u43, u44, u45, u46, u47, u48, u49, u50, u51, u52, u53, u54, u55, u56, u57, u58, u59, u60, u61, u62, u63, u64, u65, u66, u67, u68, u69, u70, u71, u72, u73, u74, u75, u76, u77, u78, u79, u80, u81, u82, u83, u84, u85, u86, u87, u88, u89, u90, u91, u92, u93, u94, u95, u96, u97, u98, u99, u100, u101, u102, u103, u104, u105, u106, u107, u108], defers := [] } wx := by
  obtain ⟨RS, hRS⟩ : ∃ RS, RS = (secondOf (secondOf (secondOf (Ybaf.f6.body.getD .skip)))) := ⟨_, rfl⟩
  obtain ⟨T, hT⟩ : ∃ T, T = (Code.seq (firstOf (Ybaf.f6.body.getD .skip)) (Code.seq (firstOf (secondOf (Ybaf.f6.body.getD .skip))) (Code.seq (firstOf (secondOf (secondOf (Ybaf.f6.body.getD .skip)))) RS))) := ⟨_, rfl⟩
  have hE : (Ybaf.f6.body.getD .skip) = T := by rw [hT, hRS]; rfl
  rw [hE]
  have HRS : Hid _ := hRS
  clear hE hRS
  dsimp only [Ybaf.f6, Option.getD, secondOf, firstOf] at hT
  subst hT
  dsimp only
  have HALL : Hid (∀ w2 v2 n9, Buf B r w2 v2 n9 (XS) → n9 = NN → Kept B r wx w2 → ∃ a9 c9, v2 = .slice a9 n9 c9 ∧ Hid (∀ (u2 u3 u4 u5 u6 u7 u8 u9 u10 u11 u12 u13 u14 u15 u16 u17 u18 u19 u20 u21 u22 u23 u24 u25 u26 u27 u28 u29 u30 u31 u32 u33 u34 u35 u36 u37 u38 u39 u40 u41 u42 u43 u44 u45 u46 u47 u48 u49 u50 u51 u52 u53 u54 u55 u56 u57 u58 u59 u60 u61 u62 u63 u64 u65 u66 u67 u68 u69 u70 u71 u72 u73 u74 u75 u76 u77 u78 u79 u80 u81 u82 u83 u84 u85 u86 u87 u88 u89 u90 u91 u92 u93 u94 u95 u96 u97 u98 u99 u100 u101 u102 u103 u104 u105 u106 u107 u108 : Value), Code.wp Ybaf.prog RS (bodyPost Ybaf.prog Ybaf.f6 fun e w' => ∃ v', e = .returned (.tuple #[v', .nilIface]) ∧ Buf B r w' v' ((NN + 8 + 48 + (4 + n * 72) + 4 + n2 * 8 + 4 + n3)) ((XS ++ be64 (IntKind.u64.wrap rep) ++ (be64 (IntKind.u64.wrap inst) ++ be64 view ++ blk) ++ (be32 n ++ encV V) ++ be32 n2 ++ encI zs ++ be32 n3 ++ bs)) ∧ Kept B r w0 w') { tmps := #[.slice a9 n9 c9, .pointer (some ⟨M, 0, none⟩), u2, u3, u4, u5, u6, u7, u8, u9, u10, u11, u12, u13, u14, u15, u16, u17, u18, u19, u20, u21, u22, u23, u24, u25, u26, u27, u28, u29, u30, u31, u32, u33, u34, u35, u36, u37, u38, u39, u40, u41, u42, u43, u44, u45, u46, u47, u48, u49, u50, u51, u52, u53, u54, u55, u56, u57, u58, u59, u60, u61, u62, u63, u64, u65, u66, u67, u68, u69, u70, u71, u72, u73, u74, u75, u76, u77, u78, u79, u80, u81, u82, u83, u84, u85, u86, u87, u88, u89, u90, u91, u92, u93, u94, u95, u96, u97, u98, u99, u100, u101, u102, u103, u104, u105, u106, u107, u108], defers := [] } w2)) := by
    intro w2 v2 n9 hb hn hk
    obtain ⟨a9, c9, rfl⟩ := hb.shape
    refine ⟨a9, c9, rfl, ?_⟩
    intro u2
    intros
    rw [HRS.out]
    exact ag3 w0 w2 B r M rep inst view blk a a2 a3 n c n2 c2 n3 c3 V zs bs XS NN hNN (hm.kept hk) (Nat.le_trans hB hk.size) (hk0.trans hk) a9 n9 c9 hn hb _ _ _ _ _ _ _ _ _ _ _ _ _ _ _ _ _ _ _ _ _ _ _ _ _ _ _ _ _ _ _ _ _ _ _ _ _ _ _ _ _ _ _ _ _ _ _ _ _ _ _ _ _ _ _ _ _ _ _ _ _ _ _ _ _ _ _ _ _ _ _ _ _ _ _ _ _ _ _ _ _ _ _ _ _ _ _ _ _ _ _ _ _ _ _ _ _ _ _ _ _ _ _ _ _ _ _
  have hok : ∀ e ∈ V.map Prod.fst, e.len = 64 := by
    intro e he
    obtain ⟨p, hp, rfl⟩ := List.mem_map.1 he
    exact (hm.votes.sig p hp).1
  have HC : Hid _ := check_ok F (V.map Prod.fst) n c a wx hF (by rw [List.length_map, hm.votes.len]) (by have := hm.nle; omega) hm.votes.row hok
  have c4 := hm.m4
  have HM : Hid _ := hm
  have HBUF : Hid _ := hbuf
  have HN : Hid _ := hnb
  have HF : Hid _ := hF
  clear hm hbuf hk0 hnb hok hF
  go_wp2_with fail
  refine Calls.mono (HC.out) ?_
  rintro e w2 ⟨rfl, hb⟩
  have hk2 : Kept B r wx w2 := Kept.of_below hb hB
  have hm2 := HM.out.kept hk2
  have c5 := hm2.m5
  have c6 := hm2.m6
  have hB2 : B ≤ w2.heap.size := Nat.le_trans hB hb.size
  have hbuf2 := HBUF.out.below hb
  rcases hs with ⟨h2, h3⟩ | h3
  · obtain ⟨a9, c9, e9, hgo⟩ := HALL.out w2 _ _ hbuf2 HN.out hk2
    cases e9
    have h2' : ¬ 0 < n2 := by omega
    have h3' : ¬ 0 < n3 := by omega
    have hd1 : decide ((0 : Int) < (n2 : Int)) = false := by rw [h2]; rfl
    have hd2 : decide ((0 : Int) < (n3 : Int)) = false := by rw [h3]; rfl
    clear hb hk2 hm2 hbuf2 HALL h2 h3
    go_wp2
    exact hgo.out _ _ _ _ _ _ _ _ _ _ _ _ _ _ _ _ _ _ _ _ _ _ _ _ _ _ _ _ _ _ _ _ _ _ _ _ _ _ _ _ _ _ _ _ _ _ _ _ _ _ _ _ _ _ _ _ _ _ _ _ _ _ _ _ _ _ _ _ _ _ _ _ _ _ _ _ _ _ _ _ _ _ _ _ _ _ _ _ _ _ _ _ _ _ _ _ _ _ _ _ _ _ _ _ _ _ _
  · have h0 : (w2.alloc (.cells #[.int .i64 0, .slice a3 n3 c3] 31)).cell? ⟨w2.heap.size, 0, none⟩ = some (.int .i64 0) := by rw [World.cell?_alloc_new]; rfl
    have h1 : (w2.alloc (.cells #[.int .i64 0, .slice a3 n3 c3] 31)).cell? ⟨w2.heap.size, 1, none⟩ = some (.slice a3 n3 c3) := by rw [World.cell?_alloc_new]; rfl
    have hb3 : Below w2.heap.size w2 (w2.alloc (.cells #[.int .i64 0, .slice a3 n3 c3] 31)) := (Below.refl _ _).alloc (Nat.le_refl _) _
    have HC2 : Hid _ := check_ok F [⟨0, a3, n3, c3⟩] 1 1 (some ⟨w2.heap.size, 0, none⟩) (w2.alloc (.cells #[.int .i64 0, .slice a3 n3 c3] 31)) (by show F.answers w2.tape; rw [hb.tape]; exact HF.out) rfl (by omega) (rowS_one (e := ⟨0, a3, n3, c3⟩) (by simp) h0 h1) (fun e he => by rw [List.mem_singleton.1 he]; exact h3)
    have HGO : Hid (∀ w3, Below (w2.alloc (.cells #[.int .i64 0, .slice a3 n3 c3] 31)).heap.size (w2.alloc (.cells #[.int .i64 0, .slice a3 n3 c3] 31)) w3 → ∀ (u2 u3 u4 u5 u6 u7 u8 u9 u10 u11 u12 u13 u14 u15 u16 u17 u18 u19 u20 u21 u22 u23 u24 u25 u26 u27 u28 u29 u30 u31 u32 u33 u34 u35 u36 u37 u38 u39 u40 u41 u42 u43 u44 u45 u46 u47 u48 u49 u50 u51 u52 u53 u54 u55 u56 u57 u58 u59 u60 u61 u62 u63 u64 u65 u66 u67 u68 u69 u70 u71 u72 u73 u74 u75 u76 u77 u78 u79 u80 u81 u82 u83 u84 u85 u86 u87 u88 u89 u90 u91 u92 u93 u94 u95 u96 u97 u98 u99 u100 u101 u102 u103 u104 u105 u106 u107 u108 : Value), Code.wp Ybaf.prog RS (bodyPost Ybaf.prog Ybaf.f6 fun e w' => ∃ v', e = .returned (.tuple #[v', .nilIface]) ∧ Buf B r w' v' ((NN + 8 + 48 + (4 + n * 72) + 4 + n2 * 8 + 4 + n3)) ((XS ++ be64 (IntKind.u64.wrap rep) ++ (be64 (IntKind.u64.wrap inst) ++ be64 view ++ blk) ++ (be32 n ++ encV V) ++ be32 n2 ++ encI zs ++ be32 n3 ++ bs)) ∧ Kept B r w0 w') { tmps := #[.slice ab nb cb, .pointer (some ⟨M, 0, none⟩), u2, u3, u4, u5, u6, u7, u8, u9, u10, u11, u12, u13, u14, u15, u16, u17, u18, u19, u20, u21, u22, u23, u24, u25, u26, u27, u28, u29, u30, u31, u32, u33, u34, u35, u36, u37, u38, u39, u40, u41, u42, u43, u44, u45, u46, u47, u48, u49, u50, u51, u52, u53, u54, u55, u56, u57, u58, u59, u60, u61, u62, u63, u64, u65, u66, u67, u68, u69, u70, u71, u72, u73, u74, u75, u76, u77, u78, u79, u80, u81, u82, u83, u84, u85, u86, u87, u88, u89, u90, u91, u92, u93, u94, u95, u96, u97, u98, u99, u100, u101, u102, u103, u104, u105, u106, u107, u108], defers := [] } w3) := by
      intro w3 hb4
      have hb5 : Below w2.heap.size w2 w3 := hb3.trans (hb4.mono hb3.size)
      obtain ⟨a9, c9, e9, hgo⟩ := HALL.out w3 _ _ (hbuf2.below hb5) HN.out (hk2.trans (Kept.of_below hb5 hB2))
      cases e9
      exact hgo.out
    have hn3 : (0 : Int) < (n3 : Int) := by omega
    by_cases h2 : 0 < n2
    · have hd1 : decide ((0 : Int) < (n2 : Int)) = true := by simp; omega
      clear hb hk2 hm2 hbuf2 HALL h0 h1 hb3 h3
      go_wp2_with (go_at_call 10; refine Calls.mono (HC2.out) ?_; rintro e w3 ⟨rfl, hb4⟩)
      exact HGO.out _ hb4 _ _ _ _ _ _ _ _ _ _ _ _ _ _ _ _ _ _ _ _ _ _ _ _ _ _ _ _ _ _ _ _ _ _ _ _ _ _ _ _ _ _ _ _ _ _ _ _ _ _ _ _ _ _ _ _ _ _ _ _ _ _ _ _ _ _ _ _ _ _ _ _ _ _ _ _ _ _ _ _ _ _ _ _ _ _ _ _ _ _ _ _ _ _ _ _ _ _ _ _ _ _ _ _ _ _ _
    · have hd1 : decide ((0 : Int) < (n2 : Int)) = false := by simp; omega
      clear hb hk2 hm2 hbuf2 HALL h0 h1 hb3 h3
      go_wp2_with (go_at_call 10; refine Calls.mono (HC2.out) ?_; rintro e w3 ⟨rfl, hb4⟩)
      exact HGO.out _ hb4 _ _ _ _ _ _ _ _ _ _ _ _ _ _ _ _ _ _ _ _ _ _ _ _ _ _ _ _ _ _ _ _ _ _ _ _ _ _ _ _ _ _ _ _ _ _ _ _ _ _ _ _ _ _ _ _ _ _ _ _ _ _ _ _ _ _ _ _ _ _ _ _ _ _ _ _ _ _ _ _ _ _ _ _ _ _ _ _ _ _ _ _ _ _ _ _ _ _ _ _ _ _ _ _ _ _ _


set_option maxRecDepth 100000 in
theorem agg_calls (F : Interp) (w0 : World) (B : Nat) (r : Option Nat) (M : Nat) (rep inst view : Int) (blk : List Value) (a a2 a3 : Option Addr) (n c n2 c2 n3 c3 : Nat) (V : List Vt) (zs : List Int) (bs : List Value) (XS : List Value) (NN : Nat) (hNN : NN ≤ 1024) (hm : Mc w0 B r M rep inst view blk a a2 a3 n c n2 c2 n3 c3 V zs bs) (hB : B ≤ w0.heap.size) (ab : Option Addr) (cb : Nat) (hbuf : Buf B r w0 (.slice ab NN cb) NN XS) (hF : F.answers w0.tape) (hs : (n2 = 0 ∧ n3 = 0) ∨ n3 = 64) :
    Calls Ybaf.prog 6 #[.slice ab NN cb, .pointer (some ⟨M, 0, none⟩)] w0 fun e w' => ∃ v', e = .returned (.tuple #[v', .nilIface]) ∧ Buf B r w' v' (NN + 8 + 48 + (4 + n * 72) + 4 + n2 * 8 + 4 + n3) (XS ++ be64 (IntKind.u64.wrap rep) ++ (be64 (IntKind.u64.wrap inst) ++ be64 view ++ blk) ++ (be32 n ++ encV V) ++ be32 n2 ++ encI zs ++ be32 n3 ++ bs) ∧ Kept B r w0 w' := by
  go_enter Ybaf.func6, Ybaf.ntmps6
  exact ag0 w0 w0 B r M rep inst view blk a a2 a3 n c n2 c2 n3 c3 V zs bs XS NN hNN hm hB (Kept.refl _ _ _) ab NN cb rfl hbuf F hF hs _ _ _ _ _ _ _ _ _ _ _ _ _ _ _ _ _ _ _ _ _ _ _ _ _ _ _ _ _ _ _ _ _ _ _ _ _ _ _ _ _ _ _ _ _ _ _ _ _ _ _ _ _ _ _ _ _ _ _ _ _ _ _ _ _ _ _ _ _ _ _ _ _ _ _ _ _ _ _ _ _ _ _ _ _ _ _ _ _ _ _ _ _ _ _ _ _ _ _ _ _ _ _ _ _ _ _
end Go.Proofs.YbulkawzkFmt
