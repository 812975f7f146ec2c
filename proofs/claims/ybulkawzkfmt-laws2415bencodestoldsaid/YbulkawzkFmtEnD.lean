import Derived.Test.YbulkawzkFmtEnC
namespace Go.Proofs.YbulkawzkFmt
open Go.RowKit Go.Extern.Stop Go.Stop Go.Extern
set_option linter.unusedVariables false

set_option maxRecDepth 100000 in
set_option maxHeartbeats 16000000 in
theorem en20 (w0 wx : World) (B X : Nat) (rep inst view seed : Int) (blk : List Value) (sa am pa a3 ga : Option Addr) (ns cs nm cm np cp n3 c3 gn gc : Nat) (V : List Vt) (zs zm : List Int) (pre bs : List Value) (hi : Inp wx B X rep inst view seed blk sa am pa a3 ga ns cs nm cm np cp n3 c3 gn gc V zs zm pre bs) (hB : B ≤ wx.heap.size) (hbel : ∀ w', Kept B none wx w' → Below w0.heap.size w0 w') (ab : Option Addr) (nb cb : Nat) (hnb : nb = np + 8 + 8 + 8 + 32 + 4) (hbuf : Buf B none wx (.slice ab nb cb) nb (pre ++ be64 (IntKind.u64.wrap rep) ++ be64 (IntKind.u64.wrap inst) ++ be64 view ++ blk ++ be32 ns)) (u0 u2 u3 u4 u5 u6 u8 u10 u12 u13 u14 u15 u16 u17 u18 u19 u20 u21 u22 u23 u24 u25 u26 u27 u28 u29 u30 u31 u32 u33 u34 u35 u36 u37 u38 u39 u40 u41 u42 u43 u44 u45 u46 u47 u48 u49 u50 u51 u52 u53 u54 u55 u56 u57 u58 u59 u60 u61 u62 u63 u64 u65 u66 u67 u68 u69 u70 u71 u72 u73 u74 u75 u76 u77 u78 u79 u80 u81 u82 u83 u84 u85 u86 u87 u88 u89 u90 u91 u92 u93 u94 u95 u96 u97 u98 u99 u100 u101 u102 u103 u104 u105 u106 u107 u108 u109 u110 u111 u112 u113 u114 u115 u116 u117 u118 u119 u120 u121 u122 u123 u124 u125 u126 u127 u128 u129 u130 u131 u132 u133 u134 u135 u136 u137 u138 u139 u140 u141 u142 u143 u144 u145 u146 u147 u148 u149 u150 u151 u152 u153 u154 u155 u156 u157 u158 u159 u160 u161 u162 u163 u164 u165 u166 u167 u168 u169 u170 u171 u172 u173 u174 u175 u176 u177 u178 u179 u180 u181 u182 u183 u184 u185 u186 u187 u188 u189 u190 u191 u192 u193 u194 : Value) :
    Code.wp Ybaf.prog (secondOf (secondOf (secondOf (secondOf (secondOf (secondOf (secondOf (secondOf (secondOf (secondOf (secondOf (secondOf (secondOf (secondOf (secondOf (secondOf (secondOf (secondOf (secondOf (secondOf (Ybaf.f3.body.getD .skip))))))))))))))))))))) (bodyPost Ybaf.prog Ybaf.f3 fun e w' => e = .returned (.bool true) ∧ Below w0.heap.size w0 w') { tmps := #[u0, .pointer (some ⟨X, 0, none⟩), u2, u3, u4, u5, u6, .slice a3 n3 c3, u8, .slice ga gn gc, u10, .slice ab nb cb, u12, u13, u14, u15, u16, u17, u18, u19, u20, u21, u22, u23, u24, u25, u26, u27, u28, u29, u30, u31, u32, u33, u34, u35, u36, u37, u38, u39, u40, u41, u42, u43, u44, u45, u46, u47, u48, u49, u50, u51, u52, u53, u54, u55, u56, u57, u58, u59, u60, u61, u62, u63, u64, u65, u66, u67, u68, u69, u70, u71, u72, u73, u74, u75, u76, u77, u78, u79, u80, u81, u82, u83, u84, u85, u86, u87, u88, u89, u90, u91, u92, u93, u94, u95, u96, u97, u98, u99, u100, u101, u102, u103, u104, u105, u106, u107, u108, u109, u110, u111, u112, u113, u114, u115, u116, u117, u118, u119, u120, u121, u122, u123, u124, u125, u126, u127, u128, u129, u130, u131, u132, u133, u134, u135, u136, u137, u138, u139, u140, u141, u142, u143, u144, u145, u146, u147, u148, u149, u150, u151, u152, u153, u154, u155, u156, u157, u158, u159, u160, u161, u162, u163, u164, u165, u166, u167, u168, u169, u170, u171, u172, u173, u174, u175, u176, u177, u178, u179, u180, u181, u182, u183, u184, u185, u186, u187, u188, u189, u190, u191, u192, u193, u194], defers := [] } wx := by
  obtain ⟨RS, hRS⟩ : ∃ RS, RS = (secondOf (secondOf (secondOf (secondOf (secondOf (secondOf (secondOf (secondOf (secondOf (secondOf (secondOf (secondOf (secondOf (secondOf (secondOf (secondOf (secondOf (secondOf (secondOf (secondOf (secondOf (Ybaf.f3.body.getD .skip)))))))))))))))))))))) := ⟨_, rfl⟩
  obtain ⟨T, hT⟩ : ∃ T, T = (Code.seq (firstOf (secondOf (secondOf (secondOf (secondOf (secondOf (secondOf (secondOf (secondOf (secondOf (secondOf (secondOf (secondOf (secondOf (secondOf (secondOf (secondOf (secondOf (secondOf (secondOf (secondOf (Ybaf.f3.body.getD .skip)))))))))))))))))))))) RS) := ⟨_, rfl⟩
  have hE : (secondOf (secondOf (secondOf (secondOf (secondOf (secondOf (secondOf (secondOf (secondOf (secondOf (secondOf (secondOf (secondOf (secondOf (secondOf (secondOf (secondOf (secondOf (secondOf (secondOf (Ybaf.f3.body.getD .skip))))))))))))))))))))) = T := by rw [hT, hRS]; rfl
  rw [hE]
  have HRS : Hid _ := hRS
  clear hE hRS
  dsimp only [Ybaf.f3, Option.getD, secondOf, firstOf] at hT
  subst hT
  dsimp only
  have HALL : Hid (∀ w2 v2 n9, Buf B none w2 v2 n9 (pre ++ be64 (IntKind.u64.wrap rep) ++ be64 (IntKind.u64.wrap inst) ++ be64 view ++ blk ++ be32 ns ++ encV V) → n9 = np + 8 + 8 + 8 + 32 + 4 + ns * 72 → Kept B none wx w2 → ∃ a9 c9, v2 = .slice a9 n9 c9 ∧ Hid (∀ (u0 u2 u3 u4 u5 u6 u8 u10 u12 u13 u14 u15 u16 u17 u18 u19 u20 u21 u22 u23 u24 u25 u26 u27 u28 u29 u30 u31 u32 u33 u34 u35 u36 u37 u38 u39 u40 u41 u42 u43 u44 u45 u46 u47 u48 u49 u50 u51 u52 u53 u54 u55 u56 u57 u58 u59 u60 u61 u62 u63 u64 u65 u66 u67 u68 u69 u70 u71 u72 u73 u74 u75 u76 u77 u78 u79 u80 u81 u82 u83 u84 u85 u86 u87 u88 u89 u90 u91 u92 u93 u94 u95 u96 u97 u98 u99 u100 u101 u102 u103 u104 u105 u106 u107 u108 u109 u110 u111 u112 u113 u114 u115 u116 u117 u118 u119 u120 u121 u122 u123 u124 u125 u126 u127 u128 u129 u130 u131 u132 u133 u134 u135 u136 u137 u138 u139 u140 u141 u142 u143 u144 u145 u146 u147 u148 u149 u150 u151 u152 u153 u154 u155 u156 u157 u158 u159 u160 u161 u162 u163 u164 u165 u166 u167 u168 u169 u170 u171 u172 u173 u174 u175 u176 u177 u178 u179 u180 u181 u182 u183 u184 u185 u186 u187 u188 u189 u190 u191 u192 u193 u194 : Value), Code.wp Ybaf.prog RS (bodyPost Ybaf.prog Ybaf.f3 fun e w' => e = .returned (.bool true) ∧ Below w0.heap.size w0 w') { tmps := #[u0, .pointer (some ⟨X, 0, none⟩), u2, u3, u4, u5, u6, .slice a3 n3 c3, u8, .slice ga gn gc, u10, .slice a9 n9 c9, u12, u13, u14, u15, u16, u17, u18, u19, u20, u21, u22, u23, u24, u25, u26, u27, u28, u29, u30, u31, u32, u33, u34, u35, u36, u37, u38, u39, u40, u41, u42, u43, u44, u45, u46, u47, u48, u49, u50, u51, u52, u53, u54, u55, u56, u57, u58, u59, u60, u61, u62, u63, u64, u65, u66, u67, u68, u69, u70, u71, u72, u73, u74, u75, u76, u77, u78, u79, u80, u81, u82, u83, u84, u85, u86, u87, u88, u89, u90, u91, u92, u93, u94, u95, u96, u97, u98, u99, u100, u101, u102, u103, u104, u105, u106, u107, u108, u109, u110, u111, u112, u113, u114, u115, u116, u117, u118, u119, u120, u121, u122, u123, u124, u125, u126, u127, u128, u129, u130, u131, u132, u133, u134, u135, u136, u137, u138, u139, u140, u141, u142, u143, u144, u145, u146, u147, u148, u149, u150, u151, u152, u153, u154, u155, u156, u157, u158, u159, u160, u161, u162, u163, u164, u165, u166, u167, u168, u169, u170, u171, u172, u173, u174, u175, u176, u177, u178, u179, u180, u181, u182, u183, u184, u185, u186, u187, u188, u189, u190, u191, u192, u193, u194], defers := [] } w2)) := by
    intro w2 v2 n9 hb hn hk
    obtain ⟨a9, c9, rfl⟩ := hb.shape
    refine ⟨a9, c9, rfl, ?_⟩
    intro u0
    intros
    rw [HRS.out]
    exact en21 w0 w2 B X rep inst view seed blk sa am pa a3 ga ns cs nm cm np cp n3 c3 gn gc V zs zm pre bs (hi.kept hk) (Nat.le_trans hB hk.size) (fun w' hk' => hbel w' (hk.trans hk')) a9 n9 c9 hn hb _ _ _ _ _ _ _ _ _ _ _ _ _ _ _ _ _ _ _ _ _ _ _ _ _ _ _ _ _ _ _ _ _ _ _ _ _ _ _ _ _ _ _ _ _ _ _ _ _ _ _ _ _ _ _ _ _ _ _ _ _ _ _ _ _ _ _ _ _ _ _ _ _ _ _ _ _ _ _ _ _ _ _ _ _ _ _ _ _ _ _ _ _ _ _ _ _ _ _ _ _ _ _ _ _ _ _ _ _ _ _ _ _ _ _ _ _ _ _ _ _ _ _ _ _ _ _ _ _ _ _ _ _ _ _ _ _ _ _ _ _ _ _ _ _ _ _ _ _ _ _ _ _ _ _ _ _ _ _ _ _ _ _ _ _ _ _ _ _ _ _ _ _ _ _ _ _ _ _ _ _ _ _ _ _ _ _ _ _ _ _
  have hns := hi.le.1
  have hnm := hi.le.2.1
  have hnp := hi.le.2.2.1
  have hn3 := hi.le.2.2.2.1
  have HBLK : Hid _ := hi.le.2.2.2.2.2
  have HI : Hid _ := hi
  have HBUF : Hid _ := hbuf
  have HN : Hid _ := hnb
  clear hi hbuf hnb hbel
  go_wp2
  go_loopw [11, 13] (fun bv i wr => ∃ (k : Nat) (a1 : Option Addr) (c1 : Nat), k ≤ ns ∧ i = .int .i64 k ∧ bv = .slice a1 (nb + k * 72) c1 ∧ Buf B none wr bv (nb + k * 72) (pre ++ be64 (IntKind.u64.wrap rep) ++ be64 (IntKind.u64.wrap inst) ++ be64 view ++ blk ++ be32 ns ++ encV (V.take k)) ∧ Kept B none wx wr) (fun _ i _ => ns - (intOf i).toNat)
  case atStart => exact ⟨0, ab, cb, by omega, rfl, by simp, by simpa [encI, encV] using HBUF.out, Kept.refl _ _ _⟩
  case round =>
    obtain ⟨k, a1, c1, hk, rfl, rfl, hb, hkp⟩ := hrel
    have hB' : B ≤ wr.heap.size := Nat.le_trans hB hkp.size
    have hiw := HI.out.kept hkp
    have y4 := hiw.x4
    by_cases hkm : k < ns
    · have hkm' : (k : Int) < (ns : Int) := by omega
      obtain ⟨z, hz⟩ : ∃ z, zs[k]? = some z := ⟨_, List.getElem?_eq_getElem (by rw [hiw.sgn.1]; exact hkm)⟩
      obtain ⟨b, off, rfl, _, hgl, q0⟩ := hiw.sgn.2 k z hz
      obtain ⟨ad, hV⟩ := HI.out.vt.2 k z hz
      have HC1 : Hid _ := u64_calls B none _ _ _ (IntKind.u64.wrap z) wr (u64_lo _) (u64_hi _) hb hB' (by have := HN.out; omega)
      have HKP : Hid _ := hkp
      have HV : Hid _ := hV
      have HIW : Hid _ := hiw
      have HNEXT : Hid (∀ v3 w3, Buf B none w3 v3 (nb + k * 72 + 8) (pre ++ be64 (IntKind.u64.wrap rep) ++ be64 (IntKind.u64.wrap inst) ++ be64 view ++ blk ++ be32 ns ++ encV (V.take k) ++ be64 (IntKind.u64.wrap z)) → Kept B none wr w3 → ∃ a4 c4, v3 = .slice a4 (nb + k * 72 + 8) c4 ∧ w3.cell? ⟨X, 36, none⟩ = some (.int .u8 seed) ∧ X < w3.heap.size ∧ Hid (Calls Ybaf.prog 5 #[.int .u8 seed, .int .i64 (k : Int)] w3 fun e w' => ∃ g, e = .returned (.slice (some ⟨g, 0, none⟩) 64 64) ∧ ∃ v5 w5, (Builtin.append_ #[25, 25] 25 #[.slice a4 (nb + k * 72 + 8) c4, .slice (some ⟨g, 0, none⟩) 64 64]).run Ybaf.prog w' = .ok v5 w5 ∧ Hid (Buf B none w5 v5 (nb + (k + 1) * 72) (pre ++ be64 (IntKind.u64.wrap rep) ++ be64 (IntKind.u64.wrap inst) ++ be64 view ++ blk ++ be32 ns ++ encV (V.take (k + 1))) ∧ Kept B none wx w5))) := by
        intro v3 w3 hb3 hk3
        obtain ⟨a4, c4, rfl⟩ := hb3.shape
        have hB3 : B ≤ w3.heap.size := Nat.le_trans hB' hk3.size
        refine ⟨a4, c4, rfl, (hiw.kept hk3).x5, Nat.lt_of_lt_of_le hiw.lt hB3, ?_⟩
        show Calls _ _ _ _ _
        refine (sig_calls seed k w3).mono ?_
        rintro e w4 ⟨rfl, ho4, hb4⟩
        refine ⟨w3.heap.size, rfl, ?_⟩
        have hk4 : Kept B none w3 w4 := Kept.of_below hb4 hB3
        have hsl := sigL_length seed k
        obtain ⟨v5, w5, hr, hb5, hk5⟩ := buf_append (hb3.below hb4) (Nat.le_trans hB3 hk4.size) (.inr ⟨⟨w3.heap.size, 0, none⟩, 64, rfl, hsl, fun j u hj => by
          have hjl := lt_of_get hj
          rw [Go.WideShapes.add_plain, Nat.zero_add]
          exact (ho4.cellAt j (by omega)).trans hj, (allBsig seed k).one⟩) (by have := HN.out; omega)
        refine ⟨v5, w5, hr, ?_, HKP.out.trans (hk3.trans (hk4.trans hk5))⟩
        rw [show nb + (k + 1) * 72 = nb + k * 72 + 8 + 64 by omega, encV_take HV.out]
        simpa [List.append_assoc] using hb5
      clear hb hkp hz hiw hV
      go_wp2_with fail
      refine Calls.mono (HC1.out) ?_
      rintro e w3 ⟨v3, rfl, hb3, hk3⟩
      obtain ⟨a4, c4, rfl, q5, hX3, HC5⟩ := HNEXT.out v3 w3 hb3 hk3
      clear hb3 hk3
      go_wp2_with fail
      refine Calls.mono (HC5.out) ?_
      rintro e w4 ⟨g, rfl, v5, w5, hr, HF⟩
      go_wp2_with (at_builtin; refine Lib.wpList_append_run _ rfl _ _ _ _ rfl _ _ rfl rfl v5 w5 hr ?_)
      obtain ⟨a5, c5, rfl⟩ := HF.out.1.shape
      go_roundw
      case rel => exact ⟨k + 1, a5, c5, by omega, by go_num, rfl, HF.out.1, HF.out.2⟩
      case measure => simp [intOf]; omega
    · have hkm' : k = ns := by omega
      have hd : decide ((k : Int) < (ns : Int)) = false := by simp; omega
      have hb2 := hb
      rw [hkm'] at hb2
      rw [← HI.out.vt.1, List.take_length, HI.out.vt.1] at hb2
      obtain ⟨a9, c9, e9, hgo⟩ := HALL.out wr _ _ hb2 (by have := HN.out; omega) hkp
      have HKM : Hid _ := hkm'
      have e10 : (Value.slice a1 (nb + k * 72) c1) = .slice a9 (nb + ns * 72) c9 := by rw [← e9, hkm']
      clear hb hb2 hkp hiw hkm' e9
      rw [e10]
      clear e10
      go_wp2
      exact hgo.out _ _ _ _ _ _ _ _ _ _ _ _ _ _ _ _ _ _ _ _ _ _ _ _ _ _ _ _ _ _ _ _ _ _ _ _ _ _ _ _ _ _ _ _ _ _ _ _ _ _ _ _ _ _ _ _ _ _ _ _ _ _ _ _ _ _ _ _ _ _ _ _ _ _ _ _ _ _ _ _ _ _ _ _ _ _ _ _ _ _ _ _ _ _ _ _ _ _ _ _ _ _ _ _ _ _ _ _ _ _ _ _ _ _ _ _ _ _ _ _ _ _ _ _ _ _ _ _ _ _ _ _ _ _ _ _ _ _ _ _ _ _ _ _ _ _ _ _ _ _ _ _ _ _ _ _ _ _ _ _ _ _ _ _ _ _ _ _ _ _ _ _ _ _ _ _ _ _ _ _ _ _ _ _ _ _ _ _ _ _ _

set_option maxRecDepth 100000 in
set_option maxHeartbeats 16000000 in
theorem en19 (w0 wx : World) (B X : Nat) (rep inst view seed : Int) (blk : List Value) (sa am pa a3 ga : Option Addr) (ns cs nm cm np cp n3 c3 gn gc : Nat) (V : List Vt) (zs zm : List Int) (pre bs : List Value) (hi : Inp wx B X rep inst view seed blk sa am pa a3 ga ns cs nm cm np cp n3 c3 gn gc V zs zm pre bs) (hB : B ≤ wx.heap.size) (hbel : ∀ w', Kept B none wx w' → Below w0.heap.size w0 w') (ab : Option Addr) (nb cb : Nat) (hnb : nb = np + 8 + 8 + 8 + 32) (hbuf : Buf B none wx (.slice ab nb cb) nb (pre ++ be64 (IntKind.u64.wrap rep) ++ be64 (IntKind.u64.wrap inst) ++ be64 view ++ blk)) (u0 u2 u3 u4 u5 u6 u8 u10 u12 u13 u14 u15 u16 u17 u18 u19 u20 u21 u22 u23 u24 u25 u26 u27 u28 u29 u30 u31 u32 u33 u34 u35 u36 u37 u38 u39 u40 u41 u42 u43 u44 u45 u46 u47 u48 u49 u50 u51 u52 u53 u54 u55 u56 u57 u58 u59 u60 u61 u62 u63 u64 u65 u66 u67 u68 u69 u70 u71 u72 u73 u74 u75 u76 u77 u78 u79 u80 u81 u82 u83 u84 u85 u86 u87 u88 u89 u90 u91 u92 u93 u94 u95 u96 u97 u98 u99 u100 u101 u102 u103 u104 u105 u106 u107 u108 u109 u110 u111 u112 u113 u114 u115 u116 u117 u118 u119 u120 u121 u122 u123 u124 u125 u126 u127 u128 u129 u130 u131 u132 u133 u134 u135 u136 u137 u138 u139 u140 u141 u142 u143 u144 u145 u146 u147 u148 u149 u150 u151 u152 u153 u154 u155 u156 u157 u158 u159 u160 u161 u162 u163 u164 u165 u166 u167 u168 u169 u170 u171 u172 u173 u174 u175 u176 u177 u178 u179 u180 u181 u182 u183 u184 u185 u186 u187 u188 u189 u190 u191 u192 u193 u194 : Value) :
    Code.wp Ybaf.prog (secondOf (secondOf (secondOf (secondOf (secondOf (secondOf (secondOf (secondOf (secondOf (secondOf (secondOf (secondOf (secondOf (secondOf (secondOf (secondOf (secondOf (secondOf (secondOf (Ybaf.f3.body.getD .skip)))))))))))))))))))) (bodyPost Ybaf.prog Ybaf.f3 fun e w' => e = .returned (.bool true) ∧ Below w0.heap.size w0 w') { tmps := #[u0, .pointer (some ⟨X, 0, none⟩), u2, u3, u4, u5, u6, .slice a3 n3 c3, u8, .slice ga gn gc, u10, .slice ab nb cb, u12, u13, u14, u15, u16, u17, u18, u19, u20, u21, u22, u23, u24, u25, u26, u27, u28, u29, u30, u31, u32, u33, u34, u35, u36, u37, u38, u39, u40, u41, u42, u43, u44, u45, u46, u47, u48, u49, u50, u51, u52, u53, u54, u55, u56, u57, u58, u59, u60, u61, u62, u63, u64, u65, u66, u67, u68, u69, u70, u71, u72, u73, u74, u75, u76, u77, u78, u79, u80, u81, u82, u83, u84, u85, u86, u87, u88, u89, u90, u91, u92, u93, u94, u95, u96, u97, u98, u99, u100, u101, u102, u103, u104, u105, u106, u107, u108, u109, u110, u111, u112, u113, u114, u115, u116, u117, u118, u119, u120, u121, u122, u123, u124, u125, u126, u127, u128, u129, u130, u131, u132, u133, u134, u135, u136, u137, u138, u139, u140, u141, u142, u143, u144, u145, u146, u147, u148, u149, u150, u151, u152, u153, u154, u155, u156, u157, u158, u159, u160, u161, u162, u163, u164, u165, u166, u167, u168, u169, u170, u171, u172, u173, u174, u175, u176, u177, u178, u179, u180, u181, u182, u183, u184, u185, u186, u187, u188, u189, u190, u191, u192, u193, u194], defers := [] } wx := by
  obtain ⟨RS, hRS⟩ : ∃ RS, RS = (secondOf (secondOf (secondOf (secondOf (secondOf (secondOf (secondOf (secondOf (secondOf (secondOf (secondOf (secondOf (secondOf (secondOf (secondOf (secondOf (secondOf (secondOf (secondOf (secondOf (Ybaf.f3.body.getD .skip))))))))))))))))))))) := ⟨_, rfl⟩
  obtain ⟨T, hT⟩ : ∃ T, T = (Code.seq (firstOf (secondOf (secondOf (secondOf (secondOf (secondOf (secondOf (secondOf (secondOf (secondOf (secondOf (secondOf (secondOf (secondOf (secondOf (secondOf (secondOf (secondOf (secondOf (secondOf (Ybaf.f3.body.getD .skip))))))))))))))))))))) RS) := ⟨_, rfl⟩
  have hE : (secondOf (secondOf (secondOf (secondOf (secondOf (secondOf (secondOf (secondOf (secondOf (secondOf (secondOf (secondOf (secondOf (secondOf (secondOf (secondOf (secondOf (secondOf (secondOf (Ybaf.f3.body.getD .skip)))))))))))))))))))) = T := by rw [hT, hRS]; rfl
  rw [hE]
  have HRS : Hid _ := hRS
  clear hE hRS
  dsimp only [Ybaf.f3, Option.getD, secondOf, firstOf] at hT
  subst hT
  dsimp only
  have HALL : Hid (∀ w2 v2 n9, Buf B none w2 v2 n9 (pre ++ be64 (IntKind.u64.wrap rep) ++ be64 (IntKind.u64.wrap inst) ++ be64 view ++ blk ++ be32 ns) → n9 = np + 8 + 8 + 8 + 32 + 4 → Kept B none wx w2 → ∃ a9 c9, v2 = .slice a9 n9 c9 ∧ Hid (∀ (u0 u2 u3 u4 u5 u6 u8 u10 u12 u13 u14 u15 u16 u17 u18 u19 u20 u21 u22 u23 u24 u25 u26 u27 u28 u29 u30 u31 u32 u33 u34 u35 u36 u37 u38 u39 u40 u41 u42 u43 u44 u45 u46 u47 u48 u49 u50 u51 u52 u53 u54 u55 u56 u57 u58 u59 u60 u61 u62 u63 u64 u65 u66 u67 u68 u69 u70 u71 u72 u73 u74 u75 u76 u77 u78 u79 u80 u81 u82 u83 u84 u85 u86 u87 u88 u89 u90 u91 u92 u93 u94 u95 u96 u97 u98 u99 u100 u101 u102 u103 u104 u105 u106 u107 u108 u109 u110 u111 u112 u113 u114 u115 u116 u117 u118 u119 u120 u121 u122 u123 u124 u125 u126 u127 u128 u129 u130 u131 u132 u133 u134 u135 u136 u137 u138 u139 u140 u141 u142 u143 u144 u145 u146 u147 u148 u149 u150 u151 u152 u153 u154 u155 u156 u157 u158 u159 u160 u161 u162 u163 u164 u165 u166 u167 u168 u169 u170 u171 u172 u173 u174 u175 u176 u177 u178 u179 u180 u181 u182 u183 u184 u185 u186 u187 u188 u189 u190 u191 u192 u193 u194 : Value), Code.wp Ybaf.prog RS (bodyPost Ybaf.prog Ybaf.f3 fun e w' => e = .returned (.bool true) ∧ Below w0.heap.size w0 w') { tmps := #[u0, .pointer (some ⟨X, 0, none⟩), u2, u3, u4, u5, u6, .slice a3 n3 c3, u8, .slice ga gn gc, u10, .slice a9 n9 c9, u12, u13, u14, u15, u16, u17, u18, u19, u20, u21, u22, u23, u24, u25, u26, u27, u28, u29, u30, u31, u32, u33, u34, u35, u36, u37, u38, u39, u40, u41, u42, u43, u44, u45, u46, u47, u48, u49, u50, u51, u52, u53, u54, u55, u56, u57, u58, u59, u60, u61, u62, u63, u64, u65, u66, u67, u68, u69, u70, u71, u72, u73, u74, u75, u76, u77, u78, u79, u80, u81, u82, u83, u84, u85, u86, u87, u88, u89, u90, u91, u92, u93, u94, u95, u96, u97, u98, u99, u100, u101, u102, u103, u104, u105, u106, u107, u108, u109, u110, u111, u112, u113, u114, u115, u116, u117, u118, u119, u120, u121, u122, u123, u124, u125, u126, u127, u128, u129, u130, u131, u132, u133, u134, u135, u136, u137, u138, u139, u140, u141, u142, u143, u144, u145, u146, u147, u148, u149, u150, u151, u152, u153, u154, u155, u156, u157, u158, u159, u160, u161, u162, u163, u164, u165, u166, u167, u168, u169, u170, u171, u172, u173, u174, u175, u176, u177, u178, u179, u180, u181, u182, u183, u184, u185, u186, u187, u188, u189, u190, u191, u192, u193, u194], defers := [] } w2)) := by
    intro w2 v2 n9 hb hn hk
    obtain ⟨a9, c9, rfl⟩ := hb.shape
    refine ⟨a9, c9, rfl, ?_⟩
    intro u0
    intros
    rw [HRS.out]
    exact en20 w0 w2 B X rep inst view seed blk sa am pa a3 ga ns cs nm cm np cp n3 c3 gn gc V zs zm pre bs (hi.kept hk) (Nat.le_trans hB hk.size) (fun w' hk' => hbel w' (hk.trans hk')) a9 n9 c9 hn hb _ _ _ _ _ _ _ _ _ _ _ _ _ _ _ _ _ _ _ _ _ _ _ _ _ _ _ _ _ _ _ _ _ _ _ _ _ _ _ _ _ _ _ _ _ _ _ _ _ _ _ _ _ _ _ _ _ _ _ _ _ _ _ _ _ _ _ _ _ _ _ _ _ _ _ _ _ _ _ _ _ _ _ _ _ _ _ _ _ _ _ _ _ _ _ _ _ _ _ _ _ _ _ _ _ _ _ _ _ _ _ _ _ _ _ _ _ _ _ _ _ _ _ _ _ _ _ _ _ _ _ _ _ _ _ _ _ _ _ _ _ _ _ _ _ _ _ _ _ _ _ _ _ _ _ _ _ _ _ _ _ _ _ _ _ _ _ _ _ _ _ _ _ _ _ _ _ _ _ _ _ _ _ _ _ _ _ _ _ _ _
  have hns := hi.le.1
  have hnm := hi.le.2.1
  have hnp := hi.le.2.2.1
  have hn3 := hi.le.2.2.2.1
  have HBLK : Hid _ := hi.le.2.2.2.2.2
  have y4 := hi.x4
  have HC : Hid _ := u32_calls B none _ nb _ (ns : Int) wx (by omega) (by omega) hbuf hB (by omega)
  have HN : Hid _ := hnb
  clear hi hbuf hnb hbel
  go_wp2_with (go_at_call 8; refine Calls.mono (HC.out) ?_; rintro e w3 ⟨v3, rfl, hb3, hk3⟩)
  obtain ⟨a9, c9, rfl, hgo⟩ := HALL.out w3 v3 _ hb3 (by have := HN.out; omega) hk3
  exact hgo.out _ _ _ _ _ _ _ _ _ _ _ _ _ _ _ _ _ _ _ _ _ _ _ _ _ _ _ _ _ _ _ _ _ _ _ _ _ _ _ _ _ _ _ _ _ _ _ _ _ _ _ _ _ _ _ _ _ _ _ _ _ _ _ _ _ _ _ _ _ _ _ _ _ _ _ _ _ _ _ _ _ _ _ _ _ _ _ _ _ _ _ _ _ _ _ _ _ _ _ _ _ _ _ _ _ _ _ _ _ _ _ _ _ _ _ _ _ _ _ _ _ _ _ _ _ _ _ _ _ _ _ _ _ _ _ _ _ _ _ _ _ _ _ _ _ _ _ _ _ _ _ _ _ _ _ _ _ _ _ _ _ _ _ _ _ _ _ _ _ _ _ _ _ _ _ _ _ _ _ _ _ _ _ _ _ _ _ _ _ _ _

end Go.Proofs.YbulkawzkFmt
