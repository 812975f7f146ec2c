import Derived.Test.YbulkawzkFmtAggS
namespace Go.Proofs.YbulkawzkFmt
open Go.RowKit Go.Extern.Stop Go.Stop Go.Extern
set_option linter.unusedVariables false

set_option maxRecDepth 100000 in
set_option maxHeartbeats 16000000 in
theorem ag8 (w0 wx : World) (B : Nat) (r : Option Nat) (M : Nat) (rep inst view : Int) (blk : List Value) (a a2 a3 : Option Addr) (n c n2 c2 n3 c3 : Nat) (V : List Vt) (zs : List Int) (bs : List Value) (XS : List Value) (NN : Nat) (hNN : NN ≤ 1024) (hm : Mc wx B r M rep inst view blk a a2 a3 n c n2 c2 n3 c3 V zs bs) (hB : B ≤ wx.heap.size) (hk0 : Kept B r w0 wx) (ab : Option Addr) (nb cb : Nat) (hnb : nb = NN + 8 + 48 + (4 + n * 72) + 4 + n2 * 8) (hbuf : Buf B r wx (.slice ab nb cb) nb (XS ++ be64 (IntKind.u64.wrap rep) ++ (be64 (IntKind.u64.wrap inst) ++ be64 view ++ blk) ++ (be32 n ++ encV V) ++ be32 n2 ++ encI zs)) (u2 u3 u4 u5 u6 u7 u8 u9 u10 u11 u12 u13 u14 u15 u16 u17 u18 u19 u20 u21 u22 u23 u24 u25 u26 u27 u28 u29 u30 u31 u32 u33 u34 u35 u36 u37 u38 u39 u40 u41 u42 u43 u44 u45 u46 u47 u48 u49 u50 u51 u52 u53 u54 u55 u56 u57 u58 u59 u60 u61 u62 u63 u64 u65 u66 u67 u68 u69 u70 u71 u72 u73 u74 u75 u76 u77 u78 u79 u80 u81 u82 u83 u84 u85 u86 u87 u88 u89 u90 u91 u92 u93 u94 u95 u96 u97 u98 u99 u100 u101 u102 u103 u104 u105 u106 u107 u108 : Value) :
    Code.wp Ybaf.prog (secondOf (secondOf (secondOf (secondOf (secondOf (secondOf (secondOf (secondOf (Ybaf.f6.body.getD .skip))))))))) (bodyPost Ybaf.prog Ybaf.f6 fun e w' => ∃ v', e = .returned (.tuple #[v', .nilIface]) ∧ Buf B r w' v' ((NN + 8 + 48 + (4 + n * 72) + 4 + n2 * 8 + 4 + n3)) ((XS ++ be64 (IntKind.u64.wrap rep) ++ (be64 (IntKind.u64.wrap inst) ++ be64 view ++ blk) ++ (be32 n ++ encV V) ++ be32 n2 ++ encI zs ++ be32 n3 ++ bs)) ∧ Kept B r w0 w') { tmps := #[.slice ab nb cb, .pointer (some ⟨M, 0, none⟩), u2, u3, u4, u5, u6, u7, u8, u9, u10, u11, u12, u13, u14, u15, u16, u17, u18, u19, u20, u21, u22, u23, u24, u25, u26, u27, u28, u29, u30, u31, u32, u33, u34, u35, u36, u37, u38, u39, u40, u41, u42, u43, u44, u45, u46, u47, u48, u49, u50, u51, u52, u53, u54, u55, u56, u57, u58, u59, u60, u61, u62, u63, u64, u65, u66, u67, u68, u69, u70, u71, u72, u73, u74, u75, u76, u77, u78, u79, u80, u81, u82, u83, u84, u85, u86, u87, u88, u89, u90, u91, u92, u93, u94, u95, u96, u97, u98, u99, u100, u101, u102, u103, u104, u105, u106, u107, u108], defers := [] } wx := by
  have hE : (secondOf (secondOf (secondOf (secondOf (secondOf (secondOf (secondOf (secondOf (Ybaf.f6.body.getD .skip))))))))) = Code.seq (firstOf (secondOf (secondOf (secondOf (secondOf (secondOf (secondOf (secondOf (secondOf (Ybaf.f6.body.getD .skip)))))))))) (secondOf (secondOf (secondOf (secondOf (secondOf (secondOf (secondOf (secondOf (secondOf (Ybaf.f6.body.getD .skip)))))))))) := rfl
  rw [hE]
  have hnle := hm.nle
  have hn2le := hm.n2le
  have hn3le := hm.n3le
  refine wp_seq (wp_mono (ag_r17 wx B r M ab nb cb _ a3 n3 c3 hB (by omega) hbuf hm.lt hm.ne hn3le hm.m6 _ _ _ _ _ _ _ _ _ _ _ _ _ _ _ _ _ _ _ _ _ _ _ _ _ _ _ _ _ _ _ _ _ _ _ _ _ _ _ _ _ _ _ _ _ _ _ _ _ _ _ _ _ _ _ _ _ _ _ _ _ _ _ _ _ _ _ _ _ _ _ _ _ _ _ _ _ _ _ _ _ _ _ _ _ _ _ _ _ _ _ _ _ _ _ _ _ _ _ _ _ _ _ _ _ _ _) ?_)
  rintro e aa w2 ⟨rfl, a9, c9, ⟨hb, hk⟩, v94, v95, v96, v97, v98, v99, v100, v101, v102, rfl⟩
  exact ag9 w0 w2 B r M rep inst view blk a a2 a3 n c n2 c2 n3 c3 V zs bs XS NN hNN (hm.kept hk) (Nat.le_trans hB hk.size) (hk0.trans hk) a9 (nb + 4) c9 (by omega) (hb) _ _ _ _ _ _ _ _ _ _ _ _ _ _ _ _ _ _ _ _ _ _ _ _ _ _ _ _ _ _ _ _ _ _ _ _ _ _ _ _ _ _ _ _ _ _ _ _ _ _ _ _ _ _ _ _ _ _ _ _ _ _ _ _ _ _ _ _ _ _ _ _ _ _ _ _ _ _ _ _ _ _ _ _ _ _ _ _ _ _ _ _ _ _ _ _ _ _ _ _ _ _ _ _ _ _ _

set_option maxRecDepth 100000 in
set_option maxHeartbeats 16000000 in
theorem ag7 (w0 wx : World) (B : Nat) (r : Option Nat) (M : Nat) (rep inst view : Int) (blk : List Value) (a a2 a3 : Option Addr) (n c n2 c2 n3 c3 : Nat) (V : List Vt) (zs : List Int) (bs : List Value) (XS : List Value) (NN : Nat) (hNN : NN ≤ 1024) (hm : Mc wx B r M rep inst view blk a a2 a3 n c n2 c2 n3 c3 V zs bs) (hB : B ≤ wx.heap.size) (hk0 : Kept B r w0 wx) (ab : Option Addr) (nb cb : Nat) (hnb : nb = NN + 8 + 48 + (4 + n * 72) + 4) (hbuf : Buf B r wx (.slice ab nb cb) nb (XS ++ be64 (IntKind.u64.wrap rep) ++ (be64 (IntKind.u64.wrap inst) ++ be64 view ++ blk) ++ (be32 n ++ encV V) ++ be32 n2)) (u2 u3 u4 u5 u6 u7 u8 u9 u10 u11 u12 u13 u14 u15 u16 u17 u18 u19 u20 u21 u22 u23 u24 u25 u26 u27 u28 u29 u30 u31 u32 u33 u34 u35 u36 u37 u38 u39 u40 u41 u42 u43 u44 u45 u46 u47 u48 u49 u50 u51 u52 u53 u54 u55 u56 u57 u58 u59 u60 u61 u62 u63 u64 u65 u66 u67 u68 u69 u70 u71 u72 u73 u74 u75 u76 u77 u78 u79 u80 u81 u82 u83 u84 u85 u86 u87 u88 u89 u90 u91 u92 u93 u94 u95 u96 u97 u98 u99 u100 u101 u102 u103 u104 u105 u106 u107 u108 : Value) :
    Code.wp Ybaf.prog (secondOf (secondOf (secondOf (secondOf (secondOf (secondOf (secondOf (Ybaf.f6.body.getD .skip)))))))) (bodyPost Ybaf.prog Ybaf.f6 fun e w' => ∃ v', e = .returned (.tuple #[v', .nilIface]) ∧ Buf B r w' v' ((NN + 8 + 48 + (4 + n * 72) + 4 + n2 * 8 + 4 + n3)) ((XS ++ be64 (IntKind.u64.wrap rep) ++ (be64 (IntKind.u64.wrap inst) ++ be64 view ++ blk) ++ (be32 n ++ encV V) ++ be32 n2 ++ encI zs ++ be32 n3 ++ bs)) ∧ Kept B r w0 w') { tmps := #[.slice ab nb cb, .pointer (some ⟨M, 0, none⟩), u2, u3, u4, u5, u6, u7, u8, u9, u10, u11, u12, u13, u14, u15, u16, u17, u18, u19, u20, u21, u22, u23, u24, u25, u26, u27, u28, u29, u30, u31, u32, u33, u34, u35, u36, u37, u38, u39, u40, u41, u42, u43, u44, u45, u46, u47, u48, u49, u50, u51, u52, u53, u54, u55, u56, u57, u58, u59, u60, u61, u62, u63, u64, u65, u66, u67, u68, u69, u70, u71, u72, u73, u74, u75, u76, u77, u78, u79, u80, u81, u82, u83, u84, u85, u86, u87, u88, u89, u90, u91, u92, u93, u94, u95, u96, u97, u98, u99, u100, u101, u102, u103, u104, u105, u106, u107, u108], defers := [] } wx := by
  obtain ⟨RS, hRS⟩ : ∃ RS, RS = (secondOf (secondOf (secondOf (secondOf (secondOf (secondOf (secondOf (secondOf (Ybaf.f6.body.getD .skip))))))))) := ⟨_, rfl⟩
  obtain ⟨T, hT⟩ : ∃ T, T = (Code.seq (firstOf (secondOf (secondOf (secondOf (secondOf (secondOf (secondOf (secondOf (Ybaf.f6.body.getD .skip))))))))) RS) := ⟨_, rfl⟩
  have hE : (secondOf (secondOf (secondOf (secondOf (secondOf (secondOf (secondOf (Ybaf.f6.body.getD .skip)))))))) = T := by rw [hT, hRS]; rfl
  rw [hE]
  have HRS : Hid _ := hRS
  clear hE hRS
  dsimp only [Ybaf.f6, Option.getD, secondOf, firstOf] at hT
  subst hT
  dsimp only
  have HALL : Hid (∀ w2 v2 n9, Buf B r w2 v2 n9 (XS ++ be64 (IntKind.u64.wrap rep) ++ (be64 (IntKind.u64.wrap inst) ++ be64 view ++ blk) ++ (be32 n ++ encV V) ++ be32 n2 ++ encI zs) → n9 = NN + 8 + 48 + (4 + n * 72) + 4 + n2 * 8 → Kept B r wx w2 → ∃ a9 c9, v2 = .slice a9 n9 c9 ∧ Hid (∀ (u2 u3 u4 u5 u6 u7 u8 u9 u10 u11 u12 u13 u14 u15 u16 u17 u18 u19 u20 u21 u22 u23 u24 u25 u26 u27 u28 u29 u30 u31 u32 u33 u34 u35 u36 u37 u38 u39 u40 u41 u42 u43 u44 u45 u46 u47 u48 u49 u50 u51 u52 u53 u54 u55 u56 u57 u58 u59 u60 u61 u62 u63 u64 u65 u66 u67 u68 u69 u70 u71 u72 u73 u74 u75 u76 u77 u78 u79 u80 u81 u82 u83 u84 u85 u86 u87 u88 u89 u90 u91 u92 u93 u94 u95 u96 u97 u98 u99 u100 u101 u102 u103 u104 u105 u106 u107 u108 : Value), Code.wp Ybaf.prog RS (bodyPost Ybaf.prog Ybaf.f6 fun e w' => ∃ v', e = .returned (.tuple #[v', .nilIface]) ∧ Buf B r w' v' ((NN + 8 + 48 + (4 + n * 72) + 4 + n2 * 8 + 4 + n3)) ((XS ++ be64 (IntKind.u64.wrap rep) ++ (be64 (IntKind.u64.wrap inst) ++ be64 view ++ blk) ++ (be32 n ++ encV V) ++ be32 n2 ++ encI zs ++ be32 n3 ++ bs)) ∧ Kept B r w0 w') { tmps := #[.slice a9 n9 c9, .pointer (some ⟨M, 0, none⟩), u2, u3, u4, u5, u6, u7, u8, u9, u10, u11, u12, u13, u14, u15, u16, u17, u18, u19, u20, u21, u22, u23, u24, u25, u26, u27, u28, u29, u30, u31, u32, u33, u34, u35, u36, u37, u38, u39, u40, u41, u42, u43, u44, u45, u46, u47, u48, u49, u50, u51, u52, u53, u54, u55, u56, u57, u58, u59, u60, u61, u62, u63, u64, u65, u66, u67, u68, u69, u70, u71, u72, u73, u74, u75, u76, u77, u78, u79, u80, u81, u82, u83, u84, u85, u86, u87, u88, u89, u90, u91, u92, u93, u94, u95, u96, u97, u98, u99, u100, u101, u102, u103, u104, u105, u106, u107, u108], defers := [] } w2)) := by
    intro w2 v2 n9 hb hn hk
    obtain ⟨a9, c9, rfl⟩ := hb.shape
    refine ⟨a9, c9, rfl, ?_⟩
    intro u2
    intros
    rw [HRS.out]
    exact ag8 w0 w2 B r M rep inst view blk a a2 a3 n c n2 c2 n3 c3 V zs bs XS NN hNN (hm.kept hk) (Nat.le_trans hB hk.size) (hk0.trans hk) a9 n9 c9 hn hb _ _ _ _ _ _ _ _ _ _ _ _ _ _ _ _ _ _ _ _ _ _ _ _ _ _ _ _ _ _ _ _ _ _ _ _ _ _ _ _ _ _ _ _ _ _ _ _ _ _ _ _ _ _ _ _ _ _ _ _ _ _ _ _ _ _ _ _ _ _ _ _ _ _ _ _ _ _ _ _ _ _ _ _ _ _ _ _ _ _ _ _ _ _ _ _ _ _ _ _ _ _ _ _ _ _ _
  have hnle := hm.nle
  have hn2le := hm.n2le
  have hn3le := hm.n3le
  have c5 := hm.m5
  have HM : Hid _ := hm
  have HBUF : Hid _ := hbuf
  have HN : Hid _ := hnb
  clear hm hbuf hk0 hnb
  go_wp2
  go_loopw [0, 84] (fun b i wr => ∃ (k : Nat) (a1 : Option Addr) (c1 : Nat), k ≤ n2 ∧ i = .int .i64 k ∧ b = .slice a1 (nb + k * 8) c1 ∧ Buf B r wr b (nb + k * 8) (XS ++ be64 (IntKind.u64.wrap rep) ++ (be64 (IntKind.u64.wrap inst) ++ be64 view ++ blk) ++ (be32 n ++ encV V) ++ be32 n2 ++ encI (zs.take k)) ∧ Kept B r wx wr) (fun _ i _ => n2 - (intOf i).toNat)
  case atStart => exact ⟨0, ab, cb, by omega, rfl, by simp, by simpa [encI] using HBUF.out, Kept.refl _ _ _⟩
  case round =>
    obtain ⟨k, a1, c1, hk, rfl, rfl, hb, hkp⟩ := hrel
    have hB' : B ≤ wr.heap.size := Nat.le_trans hB hkp.size
    by_cases hkm : k < n2
    · have hkm' : (k : Int) < (n2 : Int) := by omega
      obtain ⟨z, hz⟩ : ∃ z, zs[k]? = some z := ⟨_, List.getElem?_eq_getElem (by rw [HM.out.zlen]; exact hkm)⟩
      obtain ⟨g, rfl, _, _, hgl, q0⟩ := (HM.out.kept hkp).miss k z hz
      have HC1 : Hid _ := be64_calls B r _ _ _ (IntKind.u64.wrap z) wr (u64_lo _) (u64_hi _) hb hB' (by have := HN.out; omega)
      have HKP : Hid _ := hkp
      have HZ : Hid _ := hz
      clear hb hkp hz
      go_wp2_with (go_at_call 11; refine Calls.mono (HC1.out) ?_; rintro e w3 ⟨v3, rfl, hb3, hk3⟩)
      obtain ⟨a3', c3', rfl⟩ := hb3.shape
      go_roundw
      case rel =>
        refine ⟨k + 1, a3', c3', by omega, by go_num, ?_, ?_, HKP.out.trans hk3⟩
        · rw [show nb + (k + 1) * 8 = nb + k * 8 + 8 by omega]
        · rw [show nb + (k + 1) * 8 = nb + k * 8 + 8 by omega, encI_take HZ.out]
          simpa [List.append_assoc] using hb3
      case measure => simp [intOf]; omega
    · have hkm' : k = n2 := by omega
      subst hkm'
      have hd : decide ((k : Int) < (k : Int)) = false := by simp
      have hb2 := hb
      rw [← HM.out.zlen, List.take_length, HM.out.zlen] at hb2
      obtain ⟨a9, c9, e9, hgo⟩ := HALL.out wr _ _ hb2 (by have := HN.out; omega) hkp
      cases e9
      clear hb hb2 hkp
      go_wp2
      exact hgo.out _ _ _ _ _ _ _ _ _ _ _ _ _ _ _ _ _ _ _ _ _ _ _ _ _ _ _ _ _ _ _ _ _ _ _ _ _ _ _ _ _ _ _ _ _ _ _ _ _ _ _ _ _ _ _ _ _ _ _ _ _ _ _ _ _ _ _ _ _ _ _ _ _ _ _ _ _ _ _ _ _ _ _ _ _ _ _ _ _ _ _ _ _ _ _ _ _ _ _ _ _ _ _ _ _ _ _

set_option maxRecDepth 100000 in
set_option maxHeartbeats 16000000 in
theorem ag6 (w0 wx : World) (B : Nat) (r : Option Nat) (M : Nat) (rep inst view : Int) (blk : List Value) (a a2 a3 : Option Addr) (n c n2 c2 n3 c3 : Nat) (V : List Vt) (zs : List Int) (bs : List Value) (XS : List Value) (NN : Nat) (hNN : NN ≤ 1024) (hm : Mc wx B r M rep inst view blk a a2 a3 n c n2 c2 n3 c3 V zs bs) (hB : B ≤ wx.heap.size) (hk0 : Kept B r w0 wx) (ab : Option Addr) (nb cb : Nat) (hnb : nb = NN + 8 + 48 + (4 + n * 72)) (hbuf : Buf B r wx (.slice ab nb cb) nb (XS ++ be64 (IntKind.u64.wrap rep) ++ (be64 (IntKind.u64.wrap inst) ++ be64 view ++ blk) ++ (be32 n ++ encV V))) (u2 u3 u4 u5 u6 u7 u8 u9 u10 u11 u12 u13 u14 u15 u16 u17 u18 u19 u20 u21 u22 u23 u24 u25 u26 u27 u28 u29 u30 u31 u32 u33 u34 u35 u36 u37 u38 u39 u40 u41 u42 u43 u44 u45 u46 u47 u48 u49 u50 u51 u52 u53 u54 u55 u56 u57 u58 u59 u60 u61 u62 u63 u64 u65 u66 u67 u68 u69 u70 u71 u72 u73 u74 u75 u76 u77 u78 u79 u80 u81 u82 u83 u84 u85 u86 u87 u88 u89 u90 u91 u92 u93 u94 u95 u96 u97 u98 u99 u100 u101 u102 u103 u104 u105 u106 u107 u108 : Value) :
    Code.wp Ybaf.prog (secondOf (secondOf (secondOf (secondOf (secondOf (secondOf (Ybaf.f6.body.getD .skip))))))) (bodyPost Ybaf.prog Ybaf.f6 fun e w' => ∃ v', e = .returned (.tuple #[v', .nilIface]) ∧ Buf B r w' v' ((NN + 8 + 48 + (4 + n * 72) + 4 + n2 * 8 + 4 + n3)) ((XS ++ be64 (IntKind.u64.wrap rep) ++ (be64 (IntKind.u64.wrap inst) ++ be64 view ++ blk) ++ (be32 n ++ encV V) ++ be32 n2 ++ encI zs ++ be32 n3 ++ bs)) ∧ Kept B r w0 w') { tmps := #[.slice ab nb cb, .pointer (some ⟨M, 0, none⟩), u2, u3, u4, u5, u6, u7, u8, u9, u10, u11, u12, u13, u14, u15, u16, u17, u18, u19, u20, u21, u22, u23, u24, u25, u26, u27, u28, u29, u30, u31, u32, u33, u34, u35, u36, u37, u38, u39, u40, u41, u42, u43, u44, u45, u46, u47, u48, u49, u50, u51, u52, u53, u54, u55, u56, u57, u58, u59, u60, u61, u62, u63, u64, u65, u66, u67, u68, u69, u70, u71, u72, u73, u74, u75, u76, u77, u78, u79, u80, u81, u82, u83, u84, u85, u86, u87, u88, u89, u90, u91, u92, u93, u94, u95, u96, u97, u98, u99, u100, u101, u102, u103, u104, u105, u106, u107, u108], defers := [] } wx := by
  have hE : (secondOf (secondOf (secondOf (secondOf (secondOf (secondOf (Ybaf.f6.body.getD .skip))))))) = Code.seq (firstOf (secondOf (secondOf (secondOf (secondOf (secondOf (secondOf (Ybaf.f6.body.getD .skip)))))))) (secondOf (secondOf (secondOf (secondOf (secondOf (secondOf (secondOf (Ybaf.f6.body.getD .skip)))))))) := rfl
  rw [hE]
  have hnle := hm.nle
  have hn2le := hm.n2le
  have hn3le := hm.n3le
  refine wp_seq (wp_mono (ag_r11 wx B r M ab nb cb _ a2 n2 c2 hB (by omega) hbuf hm.lt hm.ne hn2le hm.m5 _ _ _ _ _ _ _ _ _ _ _ _ _ _ _ _ _ _ _ _ _ _ _ _ _ _ _ _ _ _ _ _ _ _ _ _ _ _ _ _ _ _ _ _ _ _ _ _ _ _ _ _ _ _ _ _ _ _ _ _ _ _ _ _ _ _ _ _ _ _ _ _ _ _ _ _ _ _ _ _ _ _ _ _ _ _ _ _ _ _ _ _ _ _ _ _ _ _ _ _ _ _ _ _ _ _ _) ?_)
  rintro e aa w2 ⟨rfl, a9, c9, ⟨hb, hk⟩, v70, v71, v72, v73, v74, v75, v76, v77, v78, rfl⟩
  exact ag7 w0 w2 B r M rep inst view blk a a2 a3 n c n2 c2 n3 c3 V zs bs XS NN hNN (hm.kept hk) (Nat.le_trans hB hk.size) (hk0.trans hk) a9 (nb + 4) c9 (by omega) (hb) _ _ _ _ _ _ _ _ _ _ _ _ _ _ _ _ _ _ _ _ _ _ _ _ _ _ _ _ _ _ _ _ _ _ _ _ _ _ _ _ _ _ _ _ _ _ _ _ _ _ _ _ _ _ _ _ _ _ _ _ _ _ _ _ _ _ _ _ _ _ _ _ _ _ _ _ _ _ _ _ _ _ _ _ _ _ _ _ _ _ _ _ _ _ _ _ _ _ _ _ _ _ _ _ _ _ _

set_option maxRecDepth 100000 in
set_option maxHeartbeats 16000000 in
theorem ag5 (w0 wx : World) (B : Nat) (r : Option Nat) (M : Nat) (rep inst view : Int) (blk : List Value) (a a2 a3 : Option Addr) (n c n2 c2 n3 c3 : Nat) (V : List Vt) (zs : List Int) (bs : List Value) (XS : List Value) (NN : Nat) (hNN : NN ≤ 1024) (hm : Mc wx B r M rep inst view blk a a2 a3 n c n2 c2 n3 c3 V zs bs) (hB : B ≤ wx.heap.size) (hk0 : Kept B r w0 wx) (ab : Option Addr) (nb cb : Nat) (hnb : nb = NN + 8 + 48) (hbuf : Buf B r wx (.slice ab nb cb) nb (XS ++ be64 (IntKind.u64.wrap rep) ++ (be64 (IntKind.u64.wrap inst) ++ be64 view ++ blk))) (u2 u3 u4 u5 u6 u7 u8 u9 u10 u11 u12 u13 u14 u15 u16 u17 u18 u19 u20 u21 u22 u23 u24 u25 u26 u27 u28 u29 u30 u31 u32 u33 u34 u35 u36 u37 u38 u39 u40 u41 u42 u43 u44 u45 u46 u47 u48 u49 u50 u51 u52 u53 u54 u55 u56 u57 u58 u59 u60 u61 u62 u63 u64 u65 u66 u67 u68 u69 u70 u71 u72 u73 u74 u75 u76 u77 u78 u79 u80 u81 u82 u83 u84 u85 u86 u87 u88 u89 u90 u91 u92 u93 u94 u95 u96 u97 u98 u99 u100 u101 u102 u103 u104 u105 u106 u107 u108 : Value) :
    Code.wp Ybaf.prog (secondOf (secondOf (secondOf (secondOf (secondOf (Ybaf.f6.body.getD .skip)))))) (bodyPost Ybaf.prog Ybaf.f6 fun e w' => ∃ v', e = .returned (.tuple #[v', .nilIface]) ∧ Buf B r w' v' ((NN + 8 + 48 + (4 + n * 72) + 4 + n2 * 8 + 4 + n3)) ((XS ++ be64 (IntKind.u64.wrap rep) ++ (be64 (IntKind.u64.wrap inst) ++ be64 view ++ blk) ++ (be32 n ++ encV V) ++ be32 n2 ++ encI zs ++ be32 n3 ++ bs)) ∧ Kept B r w0 w') { tmps := #[.slice ab nb cb, .pointer (some ⟨M, 0, none⟩), u2, u3, u4, u5, u6, u7, u8, u9, u10, u11, u12, u13, u14, u15, u16, u17, u18, u19, u20, u21, u22, u23, u24, u25, u26, u27, u28, u29, u30, u31, u32, u33, u34, u35, u36, u37, u38, u39, u40, u41, u42, u43, u44, u45, u46, u47, u48, u49, u50, u51, u52, u53, u54, u55, u56, u57, u58, u59, u60, u61, u62, u63, u64, u65, u66, u67, u68, u69, u70, u71, u72, u73, u74, u75, u76, u77, u78, u79, u80, u81, u82, u83, u84, u85, u86, u87, u88, u89, u90, u91, u92, u93, u94, u95, u96, u97, u98, u99, u100, u101, u102, u103, u104, u105, u106, u107, u108], defers := [] } wx := by
  obtain ⟨RS, hRS⟩ : ∃ RS, RS = (secondOf (secondOf (secondOf (secondOf (secondOf (secondOf (Ybaf.f6.body.getD .skip))))))) := ⟨_, rfl⟩
  obtain ⟨T, hT⟩ : ∃ T, T = (Code.seq (firstOf (secondOf (secondOf (secondOf (secondOf (secondOf (Ybaf.f6.body.getD .skip))))))) RS) := ⟨_, rfl⟩
  have hE : (secondOf (secondOf (secondOf (secondOf (secondOf (Ybaf.f6.body.getD .skip)))))) = T := by rw [hT, hRS]; rfl
  rw [hE]
  have HRS : Hid _ := hRS
  clear hE hRS
  dsimp only [Ybaf.f6, Option.getD, secondOf, firstOf] at hT
  subst hT
  dsimp only
  have HALL : Hid (∀ w2 v2 n9, Buf B r w2 v2 n9 (XS ++ be64 (IntKind.u64.wrap rep) ++ (be64 (IntKind.u64.wrap inst) ++ be64 view ++ blk) ++ (be32 n ++ encV V)) → n9 = NN + 8 + 48 + (4 + n * 72) → Kept B r wx w2 → ∃ a9 c9, v2 = .slice a9 n9 c9 ∧ Hid (∀ (u2 u3 u4 u5 u6 u7 u8 u9 u10 u11 u12 u13 u14 u15 u16 u17 u18 u19 u20 u21 u22 u23 u24 u25 u26 u27 u28 u29 u30 u31 u32 u33 u34 u35 u36 u37 u38 u39 u40 u41 u42 u43 u44 u45 u46 u47 u48 u49 u50 u51 u52 u53 u54 u55 u56 u57 u58 u59 u60 u61 u62 u63 u64 u65 u66 u67 u68 u69 u70 u71 u72 u73 u74 u75 u76 u77 u78 u79 u80 u81 u82 u83 u84 u85 u86 u87 u88 u89 u90 u91 u92 u93 u94 u95 u96 u97 u98 u99 u100 u101 u102 u103 u104 u105 u106 u107 u108 : Value), Code.wp Ybaf.prog RS (bodyPost Ybaf.prog Ybaf.f6 fun e w' => ∃ v', e = .returned (.tuple #[v', .nilIface]) ∧ Buf B r w' v' ((NN + 8 + 48 + (4 + n * 72) + 4 + n2 * 8 + 4 + n3)) ((XS ++ be64 (IntKind.u64.wrap rep) ++ (be64 (IntKind.u64.wrap inst) ++ be64 view ++ blk) ++ (be32 n ++ encV V) ++ be32 n2 ++ encI zs ++ be32 n3 ++ bs)) ∧ Kept B r w0 w') { tmps := #[.slice a9 n9 c9, .pointer (some ⟨M, 0, none⟩), u2, u3, u4, u5, u6, u7, u8, u9, u10, u11, u12, u13, u14, u15, u16, u17, u18, u19, u20, u21, u22, u23, u24, u25, u26, u27, u28, u29, u30, u31, u32, u33, u34, u35, u36, u37, u38, u39, u40, u41, u42, u43, u44, u45, u46, u47, u48, u49, u50, u51, u52, u53, u54, u55, u56, u57, u58, u59, u60, u61, u62, u63, u64, u65, u66, u67, u68, u69, u70, u71, u72, u73, u74, u75, u76, u77, u78, u79, u80, u81, u82, u83, u84, u85, u86, u87, u88, u89, u90, u91, u92, u93, u94, u95, u96, u97, u98, u99, u100, u101, u102, u103, u104, u105, u106, u107, u108], defers := [] } w2)) := by
    intro w2 v2 n9 hb hn hk
    obtain ⟨a9, c9, rfl⟩ := hb.shape
    refine ⟨a9, c9, rfl, ?_⟩
    intro u2
    intros
    rw [HRS.out]
    exact ag6 w0 w2 B r M rep inst view blk a a2 a3 n c n2 c2 n3 c3 V zs bs XS NN hNN (hm.kept hk) (Nat.le_trans hB hk.size) (hk0.trans hk) a9 n9 c9 hn hb _ _ _ _ _ _ _ _ _ _ _ _ _ _ _ _ _ _ _ _ _ _ _ _ _ _ _ _ _ _ _ _ _ _ _ _ _ _ _ _ _ _ _ _ _ _ _ _ _ _ _ _ _ _ _ _ _ _ _ _ _ _ _ _ _ _ _ _ _ _ _ _ _ _ _ _ _ _ _ _ _ _ _ _ _ _ _ _ _ _ _ _ _ _ _ _ _ _ _ _ _ _ _ _ _ _ _
  have hnle := hm.nle
  have hn2le := hm.n2le
  have hn3le := hm.n3le
  have c4 := hm.m4
  have HC : Hid _ := sigs_calls B r _ nb _ a n c V wx hbuf hB (by omega) hnle hm.votes
  have HN : Hid _ := hnb
  clear hm hbuf hk0 hnb
  go_wp2_with (go_at_call 13; refine Calls.mono (HC.out) ?_; rintro e w3 ⟨v3, rfl, hb3, hk3⟩)
  obtain ⟨a9, c9, rfl, hgo⟩ := HALL.out w3 v3 _ (by simpa [List.append_assoc] using hb3) (by have := HN.out; omega) hk3
  exact hgo.out _ _ _ _ _ _ _ _ _ _ _ _ _ _ _ _ _ _ _ _ _ _ _ _ _ _ _ _ _ _ _ _ _ _ _ _ _ _ _ _ _ _ _ _ _ _ _ _ _ _ _ _ _ _ _ _ _ _ _ _ _ _ _ _ _ _ _ _ _ _ _ _ _ _ _ _ _ _ _ _ _ _ _ _ _ _ _ _ _ _ _ _ _ _ _ _ _ _ _ _ _ _ _ _ _ _ _

set_option maxRecDepth 100000 in
set_option maxHeartbeats 16000000 in
theorem ag4 (w0 wx : World) (B : Nat) (r : Option Nat) (M : Nat) (rep inst view : Int) (blk : List Value) (a a2 a3 : Option Addr) (n c n2 c2 n3 c3 : Nat) (V : List Vt) (zs : List Int) (bs : List Value) (XS : List Value) (NN : Nat) (hNN : NN ≤ 1024) (hm : Mc wx B r M rep inst view blk a a2 a3 n c n2 c2 n3 c3 V zs bs) (hB : B ≤ wx.heap.size) (hk0 : Kept B r w0 wx) (ab : Option Addr) (nb cb : Nat) (hnb : nb = NN + 8) (hbuf : Buf B r wx (.slice ab nb cb) nb (XS ++ be64 (IntKind.u64.wrap rep))) (u2 u3 u4 u5 u6 u7 u8 u9 u10 u11 u12 u13 u14 u15 u16 u17 u18 u19 u20 u21 u22 u23 u24 u25 u26 u27 u28 u29 u30 u31 u32 u33 u34 u35 u36 u37 u38 u39 u40 u41 u42 u43 u44 u45 u46 u47 u48 u49 u50 u51 u52 u53 u54 u55 u56 u57 u58 u59 u60 u61 u62 u63 u64 u65 u66 u67 u68 u69 u70 u71 u72 u73 u74 u75 u76 u77 u78 u79 u80 u81 u82 u83 u84 u85 u86 u87 u88 u89 u90 u91 u92 u93 u94 u95 u96 u97 u98 u99 u100 u101 u102 u103 u104 u105 u106 u107 u108 : Value) :
    Code.wp Ybaf.prog (secondOf (secondOf (secondOf (secondOf (Ybaf.f6.body.getD .skip))))) (bodyPost Ybaf.prog Ybaf.f6 fun e w' => ∃ v', e = .returned (.tuple #[v', .nilIface]) ∧ Buf B r w' v' ((NN + 8 + 48 + (4 + n * 72) + 4 + n2 * 8 + 4 + n3)) ((XS ++ be64 (IntKind.u64.wrap rep) ++ (be64 (IntKind.u64.wrap inst) ++ be64 view ++ blk) ++ (be32 n ++ encV V) ++ be32 n2 ++ encI zs ++ be32 n3 ++ bs)) ∧ Kept B r w0 w') { tmps := #[.slice ab nb cb, .pointer (some ⟨M, 0, none⟩), u2, u3, u4, u5, u6, u7, u8, u9, u10, u11, u12, u13, u14, u15, u16, u17, u18, u19, u20, u21, u22, u23, u24, u25, u26, u27, u28, u29, u30, u31, u32, u33, u34, u35, u36, u37, u38, u39, u40, u41, u42, u43, u44, u45, u46, u47, u48, u49, u50, u51, u52, u53, u54, u55, u56, u57, u58, u59, u60, u61, u62, u63, u64, u65, u66, u67, u68, u69, u70, u71, u72, u73, u74, u75, u76, u77, u78, u79, u80, u81, u82, u83, u84, u85, u86, u87, u88, u89, u90, u91, u92, u93, u94, u95, u96, u97, u98, u99, u100, u101, u102, u103, u104, u105, u106, u107, u108], defers := [] } wx := by
  have hE : (secondOf (secondOf (secondOf (secondOf (Ybaf.f6.body.getD .skip))))) = Code.seq (firstOf (secondOf (secondOf (secondOf (secondOf (Ybaf.f6.body.getD .skip)))))) (secondOf (secondOf (secondOf (secondOf (secondOf (Ybaf.f6.body.getD .skip)))))) := rfl
  rw [hE]
  have hnle := hm.nle
  have hn2le := hm.n2le
  have hn3le := hm.n3le
  refine wp_seq (wp_mono (ag_r9 wx B r M ab nb cb _ inst view blk hB (by omega) hbuf hm.lt hm.ne hm.vw.1 hm.vw.2 hm.bl hm.b1 hm.m1 hm.m2 hm.mb _ _ _ _ _ _ _ _ _ _ _ _ _ _ _ _ _ _ _ _ _ _ _ _ _ _ _ _ _ _ _ _ _ _ _ _ _ _ _ _ _ _ _ _ _ _ _ _ _ _ _ _ _ _ _ _ _ _ _ _ _ _ _ _ _ _ _ _ _ _ _ _ _ _ _ _ _ _ _ _ _ _ _ _ _ _ _ _ _ _ _ _ _ _ _ _ _ _ _ _ _ _ _ _ _ _ _) ?_)
  rintro e aa w2 ⟨rfl, a9, c9, ⟨hb, hk⟩, v50, v51, v52, v53, v54, v55, v56, v57, v58, v59, v60, v61, v62, v63, rfl⟩
  exact ag5 w0 w2 B r M rep inst view blk a a2 a3 n c n2 c2 n3 c3 V zs bs XS NN hNN (hm.kept hk) (Nat.le_trans hB hk.size) (hk0.trans hk) a9 (nb + 48) c9 (by omega) (hb) _ _ _ _ _ _ _ _ _ _ _ _ _ _ _ _ _ _ _ _ _ _ _ _ _ _ _ _ _ _ _ _ _ _ _ _ _ _ _ _ _ _ _ _ _ _ _ _ _ _ _ _ _ _ _ _ _ _ _ _ _ _ _ _ _ _ _ _ _ _ _ _ _ _ _ _ _ _ _ _ _ _ _ _ _ _ _ _ _ _ _ _ _ _ _ _ _ _ _ _ _ _ _ _ _ _ _

set_option maxRecDepth 100000 in
set_option maxHeartbeats 16000000 in
theorem ag3 (w0 wx : World) (B : Nat) (r : Option Nat) (M : Nat) (rep inst view : Int) (blk : List Value) (a a2 a3 : Option Addr) (n c n2 c2 n3 c3 : Nat) (V : List Vt) (zs : List Int) (bs : List Value) (XS : List Value) (NN : Nat) (hNN : NN ≤ 1024) (hm : Mc wx B r M rep inst view blk a a2 a3 n c n2 c2 n3 c3 V zs bs) (hB : B ≤ wx.heap.size) (hk0 : Kept B r w0 wx) (ab : Option Addr) (nb cb : Nat) (hnb : nb = NN) (hbuf : Buf B r wx (.slice ab nb cb) nb (XS)) (u2 u3 u4 u5 u6 u7 u8 u9 u10 u11 u12 u13 u14 u15 u16 u17 u18 u19 u20 u21 u22 u23 u24 u25 u26 u27 u28 u29 u30 u31 u32 u33 u34 u35 u36 u37 u38 u39 u40 u41 u42 u43 u44 u45 u46 u47 u48 u49 u50 u51 u52 u53 u54 u55 u56 u57 u58 u59 u60 u61 u62 u63 u64 u65 u66 u67 u68 u69 u70 u71 u72 u73 u74 u75 u76 u77 u78 u79 u80 u81 u82 u83 u84 u85 u86 u87 u88 u89 u90 u91 u92 u93 u94 u95 u96 u97 u98 u99 u100 u101 u102 u103 u104 u105 u106 u107 u108 : Value) :
    Code.wp Ybaf.prog (secondOf (secondOf (secondOf (Ybaf.f6.body.getD .skip)))) (bodyPost Ybaf.prog Ybaf.f6 fun e w' => ∃ v', e = .returned (.tuple #[v', .nilIface]) ∧ Buf B r w' v' ((NN + 8 + 48 + (4 + n * 72) + 4 + n2 * 8 + 4 + n3)) ((XS ++ be64 (IntKind.u64.wrap rep) ++ (be64 (IntKind.u64.wrap inst) ++ be64 view ++ blk) ++ (be32 n ++ encV V) ++ be32 n2 ++ encI zs ++ be32 n3 ++ bs)) ∧ Kept B r w0 w') { tmps := #[.slice ab nb cb, .pointer (some ⟨M, 0, none⟩), u2, u3, u4, u5, u6, u7, u8, u9, u10, u11, u12, u13, u14, u15, u16, u17, u18, u19, u20, u21, u22, u23, u24, u25, u26, u27, u28, u29, u30, u31, u32, u33, u34, u35, u36, u37, u38, u39, u40, u41, u42, u43, u44, u45, u46, u47, u48, u49, u50, u51, u52, u53, u54, u55, u56, u57, u58, u59, u60, u61, u62, u63, u64, u65, u66, u67, u68, u69, u70, u71, u72, u73, u74, u75, u76, u77, u78, u79, u80, u81, u82, u83, u84, u85, u86, u87, u88, u89, u90, u91, u92, u93, u94, u95, u96, u97, u98, u99, u100, u101, u102, u103, u104, u105, u106, u107, u108], defers := [] } wx := by
  have hE : (secondOf (secondOf (secondOf (Ybaf.f6.body.getD .skip)))) = Code.seq (firstOf (secondOf (secondOf (secondOf (Ybaf.f6.body.getD .skip))))) (secondOf (secondOf (secondOf (secondOf (Ybaf.f6.body.getD .skip))))) := rfl
  rw [hE]
  have hnle := hm.nle
  have hn2le := hm.n2le
  have hn3le := hm.n3le
  refine wp_seq (wp_mono (ag_r8 wx B r M ab nb cb _ rep hB (by omega) hbuf hm.lt hm.ne hm.m0 _ _ _ _ _ _ _ _ _ _ _ _ _ _ _ _ _ _ _ _ _ _ _ _ _ _ _ _ _ _ _ _ _ _ _ _ _ _ _ _ _ _ _ _ _ _ _ _ _ _ _ _ _ _ _ _ _ _ _ _ _ _ _ _ _ _ _ _ _ _ _ _ _ _ _ _ _ _ _ _ _ _ _ _ _ _ _ _ _ _ _ _ _ _ _ _ _ _ _ _ _ _ _ _ _ _ _) ?_)
  rintro e aa w2 ⟨rfl, a9, c9, ⟨hb, hk⟩, v42, v43, v44, v45, v46, v47, v48, v49, rfl⟩
  exact ag4 w0 w2 B r M rep inst view blk a a2 a3 n c n2 c2 n3 c3 V zs bs XS NN hNN (hm.kept hk) (Nat.le_trans hB hk.size) (hk0.trans hk) a9 (nb + 8) c9 (by omega) (hb) _ _ _ _ _ _ _ _ _ _ _ _ _ _ _ _ _ _ _ _ _ _ _ _ _ _ _ _ _ _ _ _ _ _ _ _ _ _ _ _ _ _ _ _ _ _ _ _ _ _ _ _ _ _ _ _ _ _ _ _ _ _ _ _ _ _ _ _ _ _ _ _ _ _ _ _ _ _ _ _ _ _ _ _ _ _ _ _ _ _ _ _ _ _ _ _ _ _ _ _ _ _ _ _ _ _ _

end Go.Proofs.YbulkawzkFmt
