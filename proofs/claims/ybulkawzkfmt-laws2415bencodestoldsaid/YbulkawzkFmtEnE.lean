import Derived.Test.YbulkawzkFmtEnD
namespace Go.Proofs.YbulkawzkFmt
open Go.RowKit Go.Extern.Stop Go.Stop Go.Extern
set_option linter.unusedVariables false

set_option maxRecDepth 100000 in
set_option maxHeartbeats 16000000 in
theorem en18 (w0 wx : World) (B X : Nat) (rep inst view seed : Int) (blk : List Value) (sa am pa a3 ga : Option Addr) (ns cs nm cm np cp n3 c3 gn gc : Nat) (V : List Vt) (zs zm : List Int) (pre bs : List Value) (hi : Inp wx B X rep inst view seed blk sa am pa a3 ga ns cs nm cm np cp n3 c3 gn gc V zs zm pre bs) (hB : B ≤ wx.heap.size) (hbel : ∀ w', Kept B none wx w' → Below w0.heap.size w0 w') (ab : Option Addr) (nb cb : Nat) (hnb : nb = np + 8 + 8 + 8) (hbuf : Buf B none wx (.slice ab nb cb) nb (pre ++ be64 (IntKind.u64.wrap rep) ++ be64 (IntKind.u64.wrap inst) ++ be64 view)) (u0 u2 u3 u4 u5 u6 u8 u10 u12 u13 u14 u15 u16 u17 u18 u19 u20 u21 u22 u23 u24 u25 u26 u27 u28 u29 u30 u31 u32 u33 u34 u35 u36 u37 u38 u39 u40 u41 u42 u43 u44 u45 u46 u47 u48 u49 u50 u51 u52 u53 u54 u55 u56 u57 u58 u59 u60 u61 u62 u63 u64 u65 u66 u67 u68 u69 u70 u71 u72 u73 u74 u75 u76 u77 u78 u79 u80 u81 u82 u83 u84 u85 u86 u87 u88 u89 u90 u91 u92 u93 u94 u95 u96 u97 u98 u99 u100 u101 u102 u103 u104 u105 u106 u107 u108 u109 u110 u111 u112 u113 u114 u115 u116 u117 u118 u119 u120 u121 u122 u123 u124 u125 u126 u127 u128 u129 u130 u131 u132 u133 u134 u135 u136 u137 u138 u139 u140 u141 u142 u143 u144 u145 u146 u147 u148 u149 u150 u151 u152 u153 u154 u155 u156 u157 u158 u159 u160 u161 u162 u163 u164 u165 u166 u167 u168 u169 u170 u171 u172 u173 u174 u175 u176 u177 u178 u179 u180 u181 u182 u183 u184 u185 u186 u187 u188 u189 u190 u191 u192 u193 u194 : Value) :
    Code.wp Ybaf.prog (secondOf (secondOf (secondOf (secondOf (secondOf (secondOf (secondOf (secondOf (secondOf (secondOf (secondOf (secondOf (secondOf (secondOf (secondOf (secondOf (secondOf (secondOf (Ybaf.f3.body.getD .skip))))))))))))))))))) (bodyPost Ybaf.prog Ybaf.f3 fun e w' => e = .returned (.bool true) ∧ Below w0.heap.size w0 w') { tmps := #[u0, .pointer (some ⟨X, 0, none⟩), u2, u3, u4, u5, u6, .slice a3 n3 c3, u8, .slice ga gn gc, u10, .slice ab nb cb, u12, u13, u14, u15, u16, u17, u18, u19, u20, u21, u22, u23, u24, u25, u26, u27, u28, u29, u30, u31, u32, u33, u34, u35, u36, u37, u38, u39, u40, u41, u42, u43, u44, u45, u46, u47, u48, u49, u50, u51, u52, u53, u54, u55, u56, u57, u58, u59, u60, u61, u62, u63, u64, u65, u66, u67, u68, u69, u70, u71, u72, u73, u74, u75, u76, u77, u78, u79, u80, u81, u82, u83, u84, u85, u86, u87, u88, u89, u90, u91, u92, u93, u94, u95, u96, u97, u98, u99, u100, u101, u102, u103, u104, u105, u106, u107, u108, u109, u110, u111, u112, u113, u114, u115, u116, u117, u118, u119, u120, u121, u122, u123, u124, u125, u126, u127, u128, u129, u130, u131, u132, u133, u134, u135, u136, u137, u138, u139, u140, u141, u142, u143, u144, u145, u146, u147, u148, u149, u150, u151, u152, u153, u154, u155, u156, u157, u158, u159, u160, u161, u162, u163, u164, u165, u166, u167, u168, u169, u170, u171, u172, u173, u174, u175, u176, u177, u178, u179, u180, u181, u182, u183, u184, u185, u186, u187, u188, u189, u190, u191, u192, u193, u194], defers := [] } wx := by
  obtain ⟨RS, hRS⟩ : ∃ RS, RS = (secondOf (secondOf (secondOf (secondOf (secondOf (secondOf (secondOf (secondOf (secondOf (secondOf (secondOf (secondOf (secondOf (secondOf (secondOf (secondOf (secondOf (secondOf (secondOf (Ybaf.f3.body.getD .skip)))))))))))))))))))) := ⟨_, rfl⟩
  obtain ⟨T, hT⟩ : ∃ T, T = (Code.seq (firstOf (secondOf (secondOf (secondOf (secondOf (secondOf (secondOf (secondOf (secondOf (secondOf (secondOf (secondOf (secondOf (secondOf (secondOf (secondOf (secondOf (secondOf (secondOf (Ybaf.f3.body.getD .skip)))))))))))))))))))) RS) := ⟨_, rfl⟩
  have hE : (secondOf (secondOf (secondOf (secondOf (secondOf (secondOf (secondOf (secondOf (secondOf (secondOf (secondOf (secondOf (secondOf (secondOf (secondOf (secondOf (secondOf (secondOf (Ybaf.f3.body.getD .skip))))))))))))))))))) = T := by rw [hT, hRS]; rfl
  rw [hE]
  have HRS : Hid _ := hRS
  clear hE hRS
  dsimp only [Ybaf.f3, Option.getD, secondOf, firstOf] at hT
  subst hT
  dsimp only
  have HALL : Hid (∀ w2 v2 n9, Buf B none w2 v2 n9 (pre ++ be64 (IntKind.u64.wrap rep) ++ be64 (IntKind.u64.wrap inst) ++ be64 view ++ blk) → n9 = np + 8 + 8 + 8 + 32 → Kept B none wx w2 → ∃ a9 c9, v2 = .slice a9 n9 c9 ∧ Hid (∀ (u0 u2 u3 u4 u5 u6 u8 u10 u12 u13 u14 u15 u16 u17 u18 u19 u20 u21 u22 u23 u24 u25 u26 u27 u28 u29 u30 u31 u32 u33 u34 u35 u36 u37 u38 u39 u40 u41 u42 u43 u44 u45 u46 u47 u48 u49 u50 u51 u52 u53 u54 u55 u56 u57 u58 u59 u60 u61 u62 u63 u64 u65 u66 u67 u68 u69 u70 u71 u72 u73 u74 u75 u76 u77 u78 u79 u80 u81 u82 u83 u84 u85 u86 u87 u88 u89 u90 u91 u92 u93 u94 u95 u96 u97 u98 u99 u100 u101 u102 u103 u104 u105 u106 u107 u108 u109 u110 u111 u112 u113 u114 u115 u116 u117 u118 u119 u120 u121 u122 u123 u124 u125 u126 u127 u128 u129 u130 u131 u132 u133 u134 u135 u136 u137 u138 u139 u140 u141 u142 u143 u144 u145 u146 u147 u148 u149 u150 u151 u152 u153 u154 u155 u156 u157 u158 u159 u160 u161 u162 u163 u164 u165 u166 u167 u168 u169 u170 u171 u172 u173 u174 u175 u176 u177 u178 u179 u180 u181 u182 u183 u184 u185 u186 u187 u188 u189 u190 u191 u192 u193 u194 : Value), Code.wp Ybaf.prog RS (bodyPost Ybaf.prog Ybaf.f3 fun e w' => e = .returned (.bool true) ∧ Below w0.heap.size w0 w') { tmps := #[u0, .pointer (some ⟨X, 0, none⟩), u2, u3, u4, u5, u6, .slice a3 n3 c3, u8, .slice ga gn gc, u10, .slice a9 n9 c9, u12, u13, u14, u15, u16, u17, u18, u19, u20, u21, u22, u23, u24, u25, u26, u27, u28, u29, u30, u31, u32, u33, u34, u35, u36, u37, u38, u39, u40, u41, u42, u43, u44, u45, u46, u47, u48, u49, u50, u51, u52, u53, u54, u55, u56, u57, u58, u59, u60, u61, u62, u63, u64, u65, u66, u67, u68, u69, u70, u71, u72, u73, u74, u75, u76, u77, u78, u79, u80, u81, u82, u83, u84, u85, u86, u87, u88, u89, u90, u91, u92, u93, u94, u95, u96, u97, u98, u99, u100, u101, u102, u103, u104, u105, u106, u107, u108, u109, u110, u111, u112, u113, u114, u115, u116, u117, u118, u119, u120, u121, u122, u123, u124, u125, u126, u127, u128, u129, u130, u131, u132, u133, u134, u135, u136, u137, u138, u139, u140, u141, u142, u143, u144, u145, u146, u147, u148, u149, u150, u151, u152, u153, u154, u155, u156, u157, u158, u159, u160, u161, u162, u163, u164, u165, u166, u167, u168, u169, u170, u171, u172, u173, u174, u175, u176, u177, u178, u179, u180, u181, u182, u183, u184, u185, u186, u187, u188, u189, u190, u191, u192, u193, u194], defers := [] } w2)) := by
    intro w2 v2 n9 hb hn hk
    obtain ⟨a9, c9, rfl⟩ := hb.shape
    refine ⟨a9, c9, rfl, ?_⟩
    intro u0
    intros
    rw [HRS.out]
    exact en19 w0 w2 B X rep inst view seed blk sa am pa a3 ga ns cs nm cm np cp n3 c3 gn gc V zs zm pre bs (hi.kept hk) (Nat.le_trans hB hk.size) (fun w' hk' => hbel w' (hk.trans hk')) a9 n9 c9 hn hb _ _ _ _ _ _ _ _ _ _ _ _ _ _ _ _ _ _ _ _ _ _ _ _ _ _ _ _ _ _ _ _ _ _ _ _ _ _ _ _ _ _ _ _ _ _ _ _ _ _ _ _ _ _ _ _ _ _ _ _ _ _ _ _ _ _ _ _ _ _ _ _ _ _ _ _ _ _ _ _ _ _ _ _ _ _ _ _ _ _ _ _ _ _ _ _ _ _ _ _ _ _ _ _ _ _ _ _ _ _ _ _ _ _ _ _ _ _ _ _ _ _ _ _ _ _ _ _ _ _ _ _ _ _ _ _ _ _ _ _ _ _ _ _ _ _ _ _ _ _ _ _ _ _ _ _ _ _ _ _ _ _ _ _ _ _ _ _ _ _ _ _ _ _ _ _ _ _ _ _ _ _ _ _ _ _ _ _ _ _ _
  have hns := hi.le.1
  have hnm := hi.le.2.1
  have hnp := hi.le.2.2.1
  have hn3 := hi.le.2.2.2.1
  have HBLK : Hid _ := hi.le.2.2.2.2.2
  have HI : Hid _ := hi
  have HBUF : Hid _ := hbuf
  have HN : Hid _ := hnb
  clear hi hbuf hnb hbel
  go_wp2
  go_loopw [11, 12] (fun bv i wr => ∃ (k : Nat) (a1 : Option Addr) (c1 : Nat), k ≤ 32 ∧ i = .int .i64 k ∧ bv = .slice a1 (nb + k * 1) c1 ∧ Buf B none wr bv (nb + k * 1) (pre ++ be64 (IntKind.u64.wrap rep) ++ be64 (IntKind.u64.wrap inst) ++ be64 view ++ blk.take k) ∧ Kept B none wx wr) (fun _ i _ => 32 - (intOf i).toNat)
  case atStart => exact ⟨0, ab, cb, by omega, rfl, by simp, by simpa [encI, encV] using HBUF.out, Kept.refl _ _ _⟩
  case round =>
    obtain ⟨k, a1, c1, hk, rfl, rfl, hb, hkp⟩ := hrel
    have hB' : B ≤ wr.heap.size := Nat.le_trans hB hkp.size
    have hiw := HI.out.kept hkp
    have y4 := trivial
    by_cases hkm : k < 32
    · have hkm' : (k : Int) < (32 : Int) := by omega
      obtain ⟨u, hu⟩ : ∃ u, blk[k]? = some u := ⟨_, List.getElem?_eq_getElem (by have := HBLK.out; omega)⟩
      have q0 := hiw.xb k u hu
      obtain ⟨i, rfl⟩ := HI.out.bB.1 u (List.mem_of_getElem? hu)
      have hXw : X < wr.heap.size := Nat.lt_of_lt_of_le hiw.lt hB'
      have hb2 : Below wr.heap.size wr (wr.alloc (.cells [.int .u8 i].toArray 5)) := (Below.refl _ _).alloc (Nat.le_refl _) _
      obtain ⟨v5, w5, hr, hb5, hk5⟩ := buf_append (hb.below hb2) (Nat.le_trans hB' hb2.size) (src_new (w := wr) (l := [.int .u8 i]) rfl (fun u hu => by simp at hu; subst hu; rfl) 1 rfl wr.heap.size rfl) (by have := HN.out; omega)
      obtain ⟨a5, c5, rfl⟩ := hb5.shape
      have HB5 : Hid _ := hb5
      have HK5 : Hid _ := hkp.trans ((Kept.of_below hb2 hB').trans hk5)
      have HU : Hid _ := hu
      clear hb2 hb5 hk5 hb hkp hu hiw
      go_wp2_with (at_builtin; refine Lib.wpList_append_run _ rfl _ _ _ _ rfl _ _ rfl rfl _ w5 hr ?_)
      go_roundw
      case rel =>
        refine ⟨k + 1, a5, c5, by omega, by go_num, ?_, ?_, HK5.out⟩
        · exact congrArg (fun t => Value.slice a5 t c5) (by omega)
        · rw [show nb + (k + 1) * 1 = nb + k * 1 + 1 by omega, List.take_add_one, HU.out]
          simpa [List.append_assoc] using HB5.out
      case measure => simp [intOf]; omega
    · have hkm' : k = 32 := by omega
      have hd : decide ((k : Int) < (32 : Int)) = false := by simp; omega
      have hb2 := hb
      rw [hkm'] at hb2
      rw [List.take_of_length_le (by have := HBLK.out; omega)] at hb2
      obtain ⟨a9, c9, e9, hgo⟩ := HALL.out wr _ _ hb2 (by have := HN.out; omega) hkp
      have HKM : Hid _ := hkm'
      have e10 : (Value.slice a1 (nb + k * 1) c1) = .slice a9 (nb + 32 * 1) c9 := by rw [← e9, hkm']
      clear hb hb2 hkp hiw hkm' e9
      rw [e10]
      clear e10
      go_wp2
      exact hgo.out _ _ _ _ _ _ _ _ _ _ _ _ _ _ _ _ _ _ _ _ _ _ _ _ _ _ _ _ _ _ _ _ _ _ _ _ _ _ _ _ _ _ _ _ _ _ _ _ _ _ _ _ _ _ _ _ _ _ _ _ _ _ _ _ _ _ _ _ _ _ _ _ _ _ _ _ _ _ _ _ _ _ _ _ _ _ _ _ _ _ _ _ _ _ _ _ _ _ _ _ _ _ _ _ _ _ _ _ _ _ _ _ _ _ _ _ _ _ _ _ _ _ _ _ _ _ _ _ _ _ _ _ _ _ _ _ _ _ _ _ _ _ _ _ _ _ _ _ _ _ _ _ _ _ _ _ _ _ _ _ _ _ _ _ _ _ _ _ _ _ _ _ _ _ _ _ _ _ _ _ _ _ _ _ _ _ _ _ _ _ _

set_option maxRecDepth 100000 in
set_option maxHeartbeats 16000000 in
theorem en17 (w0 wx : World) (B X : Nat) (rep inst view seed : Int) (blk : List Value) (sa am pa a3 ga : Option Addr) (ns cs nm cm np cp n3 c3 gn gc : Nat) (V : List Vt) (zs zm : List Int) (pre bs : List Value) (hi : Inp wx B X rep inst view seed blk sa am pa a3 ga ns cs nm cm np cp n3 c3 gn gc V zs zm pre bs) (hB : B ≤ wx.heap.size) (hbel : ∀ w', Kept B none wx w' → Below w0.heap.size w0 w') (ab : Option Addr) (nb cb : Nat) (hnb : nb = np + 8 + 8) (hbuf : Buf B none wx (.slice ab nb cb) nb (pre ++ be64 (IntKind.u64.wrap rep) ++ be64 (IntKind.u64.wrap inst))) (u0 u2 u3 u4 u5 u6 u8 u10 u12 u13 u14 u15 u16 u17 u18 u19 u20 u21 u22 u23 u24 u25 u26 u27 u28 u29 u30 u31 u32 u33 u34 u35 u36 u37 u38 u39 u40 u41 u42 u43 u44 u45 u46 u47 u48 u49 u50 u51 u52 u53 u54 u55 u56 u57 u58 u59 u60 u61 u62 u63 u64 u65 u66 u67 u68 u69 u70 u71 u72 u73 u74 u75 u76 u77 u78 u79 u80 u81 u82 u83 u84 u85 u86 u87 u88 u89 u90 u91 u92 u93 u94 u95 u96 u97 u98 u99 u100 u101 u102 u103 u104 u105 u106 u107 u108 u109 u110 u111 u112 u113 u114 u115 u116 u117 u118 u119 u120 u121 u122 u123 u124 u125 u126 u127 u128 u129 u130 u131 u132 u133 u134 u135 u136 u137 u138 u139 u140 u141 u142 u143 u144 u145 u146 u147 u148 u149 u150 u151 u152 u153 u154 u155 u156 u157 u158 u159 u160 u161 u162 u163 u164 u165 u166 u167 u168 u169 u170 u171 u172 u173 u174 u175 u176 u177 u178 u179 u180 u181 u182 u183 u184 u185 u186 u187 u188 u189 u190 u191 u192 u193 u194 : Value) :
    Code.wp Ybaf.prog (secondOf (secondOf (secondOf (secondOf (secondOf (secondOf (secondOf (secondOf (secondOf (secondOf (secondOf (secondOf (secondOf (secondOf (secondOf (secondOf (secondOf (Ybaf.f3.body.getD .skip)))))))))))))))))) (bodyPost Ybaf.prog Ybaf.f3 fun e w' => e = .returned (.bool true) ∧ Below w0.heap.size w0 w') { tmps := #[u0, .pointer (some ⟨X, 0, none⟩), u2, u3, u4, u5, u6, .slice a3 n3 c3, u8, .slice ga gn gc, u10, .slice ab nb cb, u12, u13, u14, u15, u16, u17, u18, u19, u20, u21, u22, u23, u24, u25, u26, u27, u28, u29, u30, u31, u32, u33, u34, u35, u36, u37, u38, u39, u40, u41, u42, u43, u44, u45, u46, u47, u48, u49, u50, u51, u52, u53, u54, u55, u56, u57, u58, u59, u60, u61, u62, u63, u64, u65, u66, u67, u68, u69, u70, u71, u72, u73, u74, u75, u76, u77, u78, u79, u80, u81, u82, u83, u84, u85, u86, u87, u88, u89, u90, u91, u92, u93, u94, u95, u96, u97, u98, u99, u100, u101, u102, u103, u104, u105, u106, u107, u108, u109, u110, u111, u112, u113, u114, u115, u116, u117, u118, u119, u120, u121, u122, u123, u124, u125, u126, u127, u128, u129, u130, u131, u132, u133, u134, u135, u136, u137, u138, u139, u140, u141, u142, u143, u144, u145, u146, u147, u148, u149, u150, u151, u152, u153, u154, u155, u156, u157, u158, u159, u160, u161, u162, u163, u164, u165, u166, u167, u168, u169, u170, u171, u172, u173, u174, u175, u176, u177, u178, u179, u180, u181, u182, u183, u184, u185, u186, u187, u188, u189, u190, u191, u192, u193, u194], defers := [] } wx := by
  obtain ⟨RS, hRS⟩ : ∃ RS, RS = (secondOf (secondOf (secondOf (secondOf (secondOf (secondOf (secondOf (secondOf (secondOf (secondOf (secondOf (secondOf (secondOf (secondOf (secondOf (secondOf (secondOf (secondOf (Ybaf.f3.body.getD .skip))))))))))))))))))) := ⟨_, rfl⟩
  obtain ⟨T, hT⟩ : ∃ T, T = (Code.seq (firstOf (secondOf (secondOf (secondOf (secondOf (secondOf (secondOf (secondOf (secondOf (secondOf (secondOf (secondOf (secondOf (secondOf (secondOf (secondOf (secondOf (secondOf (Ybaf.f3.body.getD .skip))))))))))))))))))) RS) := ⟨_, rfl⟩
  have hE : (secondOf (secondOf (secondOf (secondOf (secondOf (secondOf (secondOf (secondOf (secondOf (secondOf (secondOf (secondOf (secondOf (secondOf (secondOf (secondOf (secondOf (Ybaf.f3.body.getD .skip)))))))))))))))))) = T := by rw [hT, hRS]; rfl
  rw [hE]
  have HRS : Hid _ := hRS
  clear hE hRS
  dsimp only [Ybaf.f3, Option.getD, secondOf, firstOf] at hT
  subst hT
  dsimp only
  have HALL : Hid (∀ w2 v2 n9, Buf B none w2 v2 n9 (pre ++ be64 (IntKind.u64.wrap rep) ++ be64 (IntKind.u64.wrap inst) ++ be64 view) → n9 = np + 8 + 8 + 8 → Kept B none wx w2 → ∃ a9 c9, v2 = .slice a9 n9 c9 ∧ Hid (∀ (u0 u2 u3 u4 u5 u6 u8 u10 u12 u13 u14 u15 u16 u17 u18 u19 u20 u21 u22 u23 u24 u25 u26 u27 u28 u29 u30 u31 u32 u33 u34 u35 u36 u37 u38 u39 u40 u41 u42 u43 u44 u45 u46 u47 u48 u49 u50 u51 u52 u53 u54 u55 u56 u57 u58 u59 u60 u61 u62 u63 u64 u65 u66 u67 u68 u69 u70 u71 u72 u73 u74 u75 u76 u77 u78 u79 u80 u81 u82 u83 u84 u85 u86 u87 u88 u89 u90 u91 u92 u93 u94 u95 u96 u97 u98 u99 u100 u101 u102 u103 u104 u105 u106 u107 u108 u109 u110 u111 u112 u113 u114 u115 u116 u117 u118 u119 u120 u121 u122 u123 u124 u125 u126 u127 u128 u129 u130 u131 u132 u133 u134 u135 u136 u137 u138 u139 u140 u141 u142 u143 u144 u145 u146 u147 u148 u149 u150 u151 u152 u153 u154 u155 u156 u157 u158 u159 u160 u161 u162 u163 u164 u165 u166 u167 u168 u169 u170 u171 u172 u173 u174 u175 u176 u177 u178 u179 u180 u181 u182 u183 u184 u185 u186 u187 u188 u189 u190 u191 u192 u193 u194 : Value), Code.wp Ybaf.prog RS (bodyPost Ybaf.prog Ybaf.f3 fun e w' => e = .returned (.bool true) ∧ Below w0.heap.size w0 w') { tmps := #[u0, .pointer (some ⟨X, 0, none⟩), u2, u3, u4, u5, u6, .slice a3 n3 c3, u8, .slice ga gn gc, u10, .slice a9 n9 c9, u12, u13, u14, u15, u16, u17, u18, u19, u20, u21, u22, u23, u24, u25, u26, u27, u28, u29, u30, u31, u32, u33, u34, u35, u36, u37, u38, u39, u40, u41, u42, u43, u44, u45, u46, u47, u48, u49, u50, u51, u52, u53, u54, u55, u56, u57, u58, u59, u60, u61, u62, u63, u64, u65, u66, u67, u68, u69, u70, u71, u72, u73, u74, u75, u76, u77, u78, u79, u80, u81, u82, u83, u84, u85, u86, u87, u88, u89, u90, u91, u92, u93, u94, u95, u96, u97, u98, u99, u100, u101, u102, u103, u104, u105, u106, u107, u108, u109, u110, u111, u112, u113, u114, u115, u116, u117, u118, u119, u120, u121, u122, u123, u124, u125, u126, u127, u128, u129, u130, u131, u132, u133, u134, u135, u136, u137, u138, u139, u140, u141, u142, u143, u144, u145, u146, u147, u148, u149, u150, u151, u152, u153, u154, u155, u156, u157, u158, u159, u160, u161, u162, u163, u164, u165, u166, u167, u168, u169, u170, u171, u172, u173, u174, u175, u176, u177, u178, u179, u180, u181, u182, u183, u184, u185, u186, u187, u188, u189, u190, u191, u192, u193, u194], defers := [] } w2)) := by
    intro w2 v2 n9 hb hn hk
    obtain ⟨a9, c9, rfl⟩ := hb.shape
    refine ⟨a9, c9, rfl, ?_⟩
    intro u0
    intros
    rw [HRS.out]
    exact en18 w0 w2 B X rep inst view seed blk sa am pa a3 ga ns cs nm cm np cp n3 c3 gn gc V zs zm pre bs (hi.kept hk) (Nat.le_trans hB hk.size) (fun w' hk' => hbel w' (hk.trans hk')) a9 n9 c9 hn hb _ _ _ _ _ _ _ _ _ _ _ _ _ _ _ _ _ _ _ _ _ _ _ _ _ _ _ _ _ _ _ _ _ _ _ _ _ _ _ _ _ _ _ _ _ _ _ _ _ _ _ _ _ _ _ _ _ _ _ _ _ _ _ _ _ _ _ _ _ _ _ _ _ _ _ _ _ _ _ _ _ _ _ _ _ _ _ _ _ _ _ _ _ _ _ _ _ _ _ _ _ _ _ _ _ _ _ _ _ _ _ _ _ _ _ _ _ _ _ _ _ _ _ _ _ _ _ _ _ _ _ _ _ _ _ _ _ _ _ _ _ _ _ _ _ _ _ _ _ _ _ _ _ _ _ _ _ _ _ _ _ _ _ _ _ _ _ _ _ _ _ _ _ _ _ _ _ _ _ _ _ _ _ _ _ _ _ _ _ _ _
  have hns := hi.le.1
  have hnm := hi.le.2.1
  have hnp := hi.le.2.2.1
  have hn3 := hi.le.2.2.2.1
  have HBLK : Hid _ := hi.le.2.2.2.2.2
  have y := hi.x2
  have HC : Hid _ := u64_calls B none _ nb _ view wx hi.rg.1 hi.rg.2 hbuf hB (by omega)
  have HN : Hid _ := hnb
  clear hi hbuf hnb hbel
  go_wp2_with (go_at_call 7; refine Calls.mono (HC.out) ?_; rintro e w3 ⟨v3, rfl, hb3, hk3⟩)
  obtain ⟨a9, c9, rfl, hgo⟩ := HALL.out w3 v3 _ hb3 (by have := HN.out; omega) hk3
  exact hgo.out _ _ _ _ _ _ _ _ _ _ _ _ _ _ _ _ _ _ _ _ _ _ _ _ _ _ _ _ _ _ _ _ _ _ _ _ _ _ _ _ _ _ _ _ _ _ _ _ _ _ _ _ _ _ _ _ _ _ _ _ _ _ _ _ _ _ _ _ _ _ _ _ _ _ _ _ _ _ _ _ _ _ _ _ _ _ _ _ _ _ _ _ _ _ _ _ _ _ _ _ _ _ _ _ _ _ _ _ _ _ _ _ _ _ _ _ _ _ _ _ _ _ _ _ _ _ _ _ _ _ _ _ _ _ _ _ _ _ _ _ _ _ _ _ _ _ _ _ _ _ _ _ _ _ _ _ _ _ _ _ _ _ _ _ _ _ _ _ _ _ _ _ _ _ _ _ _ _ _ _ _ _ _ _ _ _ _ _ _ _ _

set_option maxRecDepth 100000 in
set_option maxHeartbeats 16000000 in
theorem en16 (w0 wx : World) (B X : Nat) (rep inst view seed : Int) (blk : List Value) (sa am pa a3 ga : Option Addr) (ns cs nm cm np cp n3 c3 gn gc : Nat) (V : List Vt) (zs zm : List Int) (pre bs : List Value) (hi : Inp wx B X rep inst view seed blk sa am pa a3 ga ns cs nm cm np cp n3 c3 gn gc V zs zm pre bs) (hB : B ≤ wx.heap.size) (hbel : ∀ w', Kept B none wx w' → Below w0.heap.size w0 w') (ab : Option Addr) (nb cb : Nat) (hnb : nb = np + 8) (hbuf : Buf B none wx (.slice ab nb cb) nb (pre ++ be64 (IntKind.u64.wrap rep))) (u0 u2 u3 u4 u5 u6 u8 u10 u12 u13 u14 u15 u16 u17 u18 u19 u20 u21 u22 u23 u24 u25 u26 u27 u28 u29 u30 u31 u32 u33 u34 u35 u36 u37 u38 u39 u40 u41 u42 u43 u44 u45 u46 u47 u48 u49 u50 u51 u52 u53 u54 u55 u56 u57 u58 u59 u60 u61 u62 u63 u64 u65 u66 u67 u68 u69 u70 u71 u72 u73 u74 u75 u76 u77 u78 u79 u80 u81 u82 u83 u84 u85 u86 u87 u88 u89 u90 u91 u92 u93 u94 u95 u96 u97 u98 u99 u100 u101 u102 u103 u104 u105 u106 u107 u108 u109 u110 u111 u112 u113 u114 u115 u116 u117 u118 u119 u120 u121 u122 u123 u124 u125 u126 u127 u128 u129 u130 u131 u132 u133 u134 u135 u136 u137 u138 u139 u140 u141 u142 u143 u144 u145 u146 u147 u148 u149 u150 u151 u152 u153 u154 u155 u156 u157 u158 u159 u160 u161 u162 u163 u164 u165 u166 u167 u168 u169 u170 u171 u172 u173 u174 u175 u176 u177 u178 u179 u180 u181 u182 u183 u184 u185 u186 u187 u188 u189 u190 u191 u192 u193 u194 : Value) :
    Code.wp Ybaf.prog (secondOf (secondOf (secondOf (secondOf (secondOf (secondOf (secondOf (secondOf (secondOf (secondOf (secondOf (secondOf (secondOf (secondOf (secondOf (secondOf (Ybaf.f3.body.getD .skip))))))))))))))))) (bodyPost Ybaf.prog Ybaf.f3 fun e w' => e = .returned (.bool true) ∧ Below w0.heap.size w0 w') { tmps := #[u0, .pointer (some ⟨X, 0, none⟩), u2, u3, u4, u5, u6, .slice a3 n3 c3, u8, .slice ga gn gc, u10, .slice ab nb cb, u12, u13, u14, u15, u16, u17, u18, u19, u20, u21, u22, u23, u24, u25, u26, u27, u28, u29, u30, u31, u32, u33, u34, u35, u36, u37, u38, u39, u40, u41, u42, u43, u44, u45, u46, u47, u48, u49, u50, u51, u52, u53, u54, u55, u56, u57, u58, u59, u60, u61, u62, u63, u64, u65, u66, u67, u68, u69, u70, u71, u72, u73, u74, u75, u76, u77, u78, u79, u80, u81, u82, u83, u84, u85, u86, u87, u88, u89, u90, u91, u92, u93, u94, u95, u96, u97, u98, u99, u100, u101, u102, u103, u104, u105, u106, u107, u108, u109, u110, u111, u112, u113, u114, u115, u116, u117, u118, u119, u120, u121, u122, u123, u124, u125, u126, u127, u128, u129, u130, u131, u132, u133, u134, u135, u136, u137, u138, u139, u140, u141, u142, u143, u144, u145, u146, u147, u148, u149, u150, u151, u152, u153, u154, u155, u156, u157, u158, u159, u160, u161, u162, u163, u164, u165, u166, u167, u168, u169, u170, u171, u172, u173, u174, u175, u176, u177, u178, u179, u180, u181, u182, u183, u184, u185, u186, u187, u188, u189, u190, u191, u192, u193, u194], defers := [] } wx := by
  obtain ⟨RS, hRS⟩ : ∃ RS, RS = (secondOf (secondOf (secondOf (secondOf (secondOf (secondOf (secondOf (secondOf (secondOf (secondOf (secondOf (secondOf (secondOf (secondOf (secondOf (secondOf (secondOf (Ybaf.f3.body.getD .skip)))))))))))))))))) := ⟨_, rfl⟩
  obtain ⟨T, hT⟩ : ∃ T, T = (Code.seq (firstOf (secondOf (secondOf (secondOf (secondOf (secondOf (secondOf (secondOf (secondOf (secondOf (secondOf (secondOf (secondOf (secondOf (secondOf (secondOf (secondOf (Ybaf.f3.body.getD .skip)))))))))))))))))) RS) := ⟨_, rfl⟩
  have hE : (secondOf (secondOf (secondOf (secondOf (secondOf (secondOf (secondOf (secondOf (secondOf (secondOf (secondOf (secondOf (secondOf (secondOf (secondOf (secondOf (Ybaf.f3.body.getD .skip))))))))))))))))) = T := by rw [hT, hRS]; rfl
  rw [hE]
  have HRS : Hid _ := hRS
  clear hE hRS
  dsimp only [Ybaf.f3, Option.getD, secondOf, firstOf] at hT
  subst hT
  dsimp only
  have HALL : Hid (∀ w2 v2 n9, Buf B none w2 v2 n9 (pre ++ be64 (IntKind.u64.wrap rep) ++ be64 (IntKind.u64.wrap inst)) → n9 = np + 8 + 8 → Kept B none wx w2 → ∃ a9 c9, v2 = .slice a9 n9 c9 ∧ Hid (∀ (u0 u2 u3 u4 u5 u6 u8 u10 u12 u13 u14 u15 u16 u17 u18 u19 u20 u21 u22 u23 u24 u25 u26 u27 u28 u29 u30 u31 u32 u33 u34 u35 u36 u37 u38 u39 u40 u41 u42 u43 u44 u45 u46 u47 u48 u49 u50 u51 u52 u53 u54 u55 u56 u57 u58 u59 u60 u61 u62 u63 u64 u65 u66 u67 u68 u69 u70 u71 u72 u73 u74 u75 u76 u77 u78 u79 u80 u81 u82 u83 u84 u85 u86 u87 u88 u89 u90 u91 u92 u93 u94 u95 u96 u97 u98 u99 u100 u101 u102 u103 u104 u105 u106 u107 u108 u109 u110 u111 u112 u113 u114 u115 u116 u117 u118 u119 u120 u121 u122 u123 u124 u125 u126 u127 u128 u129 u130 u131 u132 u133 u134 u135 u136 u137 u138 u139 u140 u141 u142 u143 u144 u145 u146 u147 u148 u149 u150 u151 u152 u153 u154 u155 u156 u157 u158 u159 u160 u161 u162 u163 u164 u165 u166 u167 u168 u169 u170 u171 u172 u173 u174 u175 u176 u177 u178 u179 u180 u181 u182 u183 u184 u185 u186 u187 u188 u189 u190 u191 u192 u193 u194 : Value), Code.wp Ybaf.prog RS (bodyPost Ybaf.prog Ybaf.f3 fun e w' => e = .returned (.bool true) ∧ Below w0.heap.size w0 w') { tmps := #[u0, .pointer (some ⟨X, 0, none⟩), u2, u3, u4, u5, u6, .slice a3 n3 c3, u8, .slice ga gn gc, u10, .slice a9 n9 c9, u12, u13, u14, u15, u16, u17, u18, u19, u20, u21, u22, u23, u24, u25, u26, u27, u28, u29, u30, u31, u32, u33, u34, u35, u36, u37, u38, u39, u40, u41, u42, u43, u44, u45, u46, u47, u48, u49, u50, u51, u52, u53, u54, u55, u56, u57, u58, u59, u60, u61, u62, u63, u64, u65, u66, u67, u68, u69, u70, u71, u72, u73, u74, u75, u76, u77, u78, u79, u80, u81, u82, u83, u84, u85, u86, u87, u88, u89, u90, u91, u92, u93, u94, u95, u96, u97, u98, u99, u100, u101, u102, u103, u104, u105, u106, u107, u108, u109, u110, u111, u112, u113, u114, u115, u116, u117, u118, u119, u120, u121, u122, u123, u124, u125, u126, u127, u128, u129, u130, u131, u132, u133, u134, u135, u136, u137, u138, u139, u140, u141, u142, u143, u144, u145, u146, u147, u148, u149, u150, u151, u152, u153, u154, u155, u156, u157, u158, u159, u160, u161, u162, u163, u164, u165, u166, u167, u168, u169, u170, u171, u172, u173, u174, u175, u176, u177, u178, u179, u180, u181, u182, u183, u184, u185, u186, u187, u188, u189, u190, u191, u192, u193, u194], defers := [] } w2)) := by
    intro w2 v2 n9 hb hn hk
    obtain ⟨a9, c9, rfl⟩ := hb.shape
    refine ⟨a9, c9, rfl, ?_⟩
    intro u0
    intros
    rw [HRS.out]
    exact en17 w0 w2 B X rep inst view seed blk sa am pa a3 ga ns cs nm cm np cp n3 c3 gn gc V zs zm pre bs (hi.kept hk) (Nat.le_trans hB hk.size) (fun w' hk' => hbel w' (hk.trans hk')) a9 n9 c9 hn hb _ _ _ _ _ _ _ _ _ _ _ _ _ _ _ _ _ _ _ _ _ _ _ _ _ _ _ _ _ _ _ _ _ _ _ _ _ _ _ _ _ _ _ _ _ _ _ _ _ _ _ _ _ _ _ _ _ _ _ _ _ _ _ _ _ _ _ _ _ _ _ _ _ _ _ _ _ _ _ _ _ _ _ _ _ _ _ _ _ _ _ _ _ _ _ _ _ _ _ _ _ _ _ _ _ _ _ _ _ _ _ _ _ _ _ _ _ _ _ _ _ _ _ _ _ _ _ _ _ _ _ _ _ _ _ _ _ _ _ _ _ _ _ _ _ _ _ _ _ _ _ _ _ _ _ _ _ _ _ _ _ _ _ _ _ _ _ _ _ _ _ _ _ _ _ _ _ _ _ _ _ _ _ _ _ _ _ _ _ _ _
  have hns := hi.le.1
  have hnm := hi.le.2.1
  have hnp := hi.le.2.2.1
  have hn3 := hi.le.2.2.2.1
  have HBLK : Hid _ := hi.le.2.2.2.2.2
  have y := hi.x1
  have HC : Hid _ := u64_calls B none _ nb _ (IntKind.u64.wrap inst) wx (u64_lo _) (u64_hi _) hbuf hB (by omega)
  have HN : Hid _ := hnb
  clear hi hbuf hnb hbel
  go_wp2_with (go_at_call 7; refine Calls.mono (HC.out) ?_; rintro e w3 ⟨v3, rfl, hb3, hk3⟩)
  obtain ⟨a9, c9, rfl, hgo⟩ := HALL.out w3 v3 _ hb3 (by have := HN.out; omega) hk3
  exact hgo.out _ _ _ _ _ _ _ _ _ _ _ _ _ _ _ _ _ _ _ _ _ _ _ _ _ _ _ _ _ _ _ _ _ _ _ _ _ _ _ _ _ _ _ _ _ _ _ _ _ _ _ _ _ _ _ _ _ _ _ _ _ _ _ _ _ _ _ _ _ _ _ _ _ _ _ _ _ _ _ _ _ _ _ _ _ _ _ _ _ _ _ _ _ _ _ _ _ _ _ _ _ _ _ _ _ _ _ _ _ _ _ _ _ _ _ _ _ _ _ _ _ _ _ _ _ _ _ _ _ _ _ _ _ _ _ _ _ _ _ _ _ _ _ _ _ _ _ _ _ _ _ _ _ _ _ _ _ _ _ _ _ _ _ _ _ _ _ _ _ _ _ _ _ _ _ _ _ _ _ _ _ _ _ _ _ _ _ _ _ _ _

set_option maxRecDepth 100000 in
set_option maxHeartbeats 16000000 in
theorem en15 (w0 wx : World) (B X : Nat) (rep inst view seed : Int) (blk : List Value) (sa am pa a3 ga : Option Addr) (ns cs nm cm np cp n3 c3 gn gc : Nat) (V : List Vt) (zs zm : List Int) (pre bs : List Value) (hi : Inp wx B X rep inst view seed blk sa am pa a3 ga ns cs nm cm np cp n3 c3 gn gc V zs zm pre bs) (hB : B ≤ wx.heap.size) (hbel : ∀ w', Kept B none wx w' → Below w0.heap.size w0 w') (ab : Option Addr) (nb cb : Nat) (hnb : nb = np) (hbuf : Buf B none wx (.slice ab nb cb) nb (pre)) (u0 u2 u3 u4 u5 u6 u8 u10 u12 u13 u14 u15 u16 u17 u18 u19 u20 u21 u22 u23 u24 u25 u26 u27 u28 u29 u30 u31 u32 u33 u34 u35 u36 u37 u38 u39 u40 u41 u42 u43 u44 u45 u46 u47 u48 u49 u50 u51 u52 u53 u54 u55 u56 u57 u58 u59 u60 u61 u62 u63 u64 u65 u66 u67 u68 u69 u70 u71 u72 u73 u74 u75 u76 u77 u78 u79 u80 u81 u82 u83 u84 u85 u86 u87 u88 u89 u90 u91 u92 u93 u94 u95 u96 u97 u98 u99 u100 u101 u102 u103 u104 u105 u106 u107 u108 u109 u110 u111 u112 u113 u114 u115 u116 u117 u118 u119 u120 u121 u122 u123 u124 u125 u126 u127 u128 u129 u130 u131 u132 u133 u134 u135 u136 u137 u138 u139 u140 u141 u142 u143 u144 u145 u146 u147 u148 u149 u150 u151 u152 u153 u154 u155 u156 u157 u158 u159 u160 u161 u162 u163 u164 u165 u166 u167 u168 u169 u170 u171 u172 u173 u174 u175 u176 u177 u178 u179 u180 u181 u182 u183 u184 u185 u186 u187 u188 u189 u190 u191 u192 u193 u194 : Value) :
    Code.wp Ybaf.prog (secondOf (secondOf (secondOf (secondOf (secondOf (secondOf (secondOf (secondOf (secondOf (secondOf (secondOf (secondOf (secondOf (secondOf (secondOf (Ybaf.f3.body.getD .skip)))))))))))))))) (bodyPost Ybaf.prog Ybaf.f3 fun e w' => e = .returned (.bool true) ∧ Below w0.heap.size w0 w') { tmps := #[u0, .pointer (some ⟨X, 0, none⟩), u2, u3, u4, u5, u6, .slice a3 n3 c3, u8, .slice ga gn gc, u10, .slice ab nb cb, u12, u13, u14, u15, u16, u17, u18, u19, u20, u21, u22, u23, u24, u25, u26, u27, u28, u29, u30, u31, u32, u33, u34, u35, u36, u37, u38, u39, u40, u41, u42, u43, u44, u45, u46, u47, u48, u49, u50, u51, u52, u53, u54, u55, u56, u57, u58, u59, u60, u61, u62, u63, u64, u65, u66, u67, u68, u69, u70, u71, u72, u73, u74, u75, u76, u77, u78, u79, u80, u81, u82, u83, u84, u85, u86, u87, u88, u89, u90, u91, u92, u93, u94, u95, u96, u97, u98, u99, u100, u101, u102, u103, u104, u105, u106, u107, u108, u109, u110, u111, u112, u113, u114, u115, u116, u117, u118, u119, u120, u121, u122, u123, u124, u125, u126, u127, u128, u129, u130, u131, u132, u133, u134, u135, u136, u137, u138, u139, u140, u141, u142, u143, u144, u145, u146, u147, u148, u149, u150, u151, u152, u153, u154, u155, u156, u157, u158, u159, u160, u161, u162, u163, u164, u165, u166, u167, u168, u169, u170, u171, u172, u173, u174, u175, u176, u177, u178, u179, u180, u181, u182, u183, u184, u185, u186, u187, u188, u189, u190, u191, u192, u193, u194], defers := [] } wx := by
  obtain ⟨RS, hRS⟩ : ∃ RS, RS = (secondOf (secondOf (secondOf (secondOf (secondOf (secondOf (secondOf (secondOf (secondOf (secondOf (secondOf (secondOf (secondOf (secondOf (secondOf (secondOf (Ybaf.f3.body.getD .skip))))))))))))))))) := ⟨_, rfl⟩
  obtain ⟨T, hT⟩ : ∃ T, T = (Code.seq (firstOf (secondOf (secondOf (secondOf (secondOf (secondOf (secondOf (secondOf (secondOf (secondOf (secondOf (secondOf (secondOf (secondOf (secondOf (secondOf (Ybaf.f3.body.getD .skip))))))))))))))))) RS) := ⟨_, rfl⟩
  have hE : (secondOf (secondOf (secondOf (secondOf (secondOf (secondOf (secondOf (secondOf (secondOf (secondOf (secondOf (secondOf (secondOf (secondOf (secondOf (Ybaf.f3.body.getD .skip)))))))))))))))) = T := by rw [hT, hRS]; rfl
  rw [hE]
  have HRS : Hid _ := hRS
  clear hE hRS
  dsimp only [Ybaf.f3, Option.getD, secondOf, firstOf] at hT
  subst hT
  dsimp only
  have HALL : Hid (∀ w2 v2 n9, Buf B none w2 v2 n9 (pre ++ be64 (IntKind.u64.wrap rep)) → n9 = np + 8 → Kept B none wx w2 → ∃ a9 c9, v2 = .slice a9 n9 c9 ∧ Hid (∀ (u0 u2 u3 u4 u5 u6 u8 u10 u12 u13 u14 u15 u16 u17 u18 u19 u20 u21 u22 u23 u24 u25 u26 u27 u28 u29 u30 u31 u32 u33 u34 u35 u36 u37 u38 u39 u40 u41 u42 u43 u44 u45 u46 u47 u48 u49 u50 u51 u52 u53 u54 u55 u56 u57 u58 u59 u60 u61 u62 u63 u64 u65 u66 u67 u68 u69 u70 u71 u72 u73 u74 u75 u76 u77 u78 u79 u80 u81 u82 u83 u84 u85 u86 u87 u88 u89 u90 u91 u92 u93 u94 u95 u96 u97 u98 u99 u100 u101 u102 u103 u104 u105 u106 u107 u108 u109 u110 u111 u112 u113 u114 u115 u116 u117 u118 u119 u120 u121 u122 u123 u124 u125 u126 u127 u128 u129 u130 u131 u132 u133 u134 u135 u136 u137 u138 u139 u140 u141 u142 u143 u144 u145 u146 u147 u148 u149 u150 u151 u152 u153 u154 u155 u156 u157 u158 u159 u160 u161 u162 u163 u164 u165 u166 u167 u168 u169 u170 u171 u172 u173 u174 u175 u176 u177 u178 u179 u180 u181 u182 u183 u184 u185 u186 u187 u188 u189 u190 u191 u192 u193 u194 : Value), Code.wp Ybaf.prog RS (bodyPost Ybaf.prog Ybaf.f3 fun e w' => e = .returned (.bool true) ∧ Below w0.heap.size w0 w') { tmps := #[u0, .pointer (some ⟨X, 0, none⟩), u2, u3, u4, u5, u6, .slice a3 n3 c3, u8, .slice ga gn gc, u10, .slice a9 n9 c9, u12, u13, u14, u15, u16, u17, u18, u19, u20, u21, u22, u23, u24, u25, u26, u27, u28, u29, u30, u31, u32, u33, u34, u35, u36, u37, u38, u39, u40, u41, u42, u43, u44, u45, u46, u47, u48, u49, u50, u51, u52, u53, u54, u55, u56, u57, u58, u59, u60, u61, u62, u63, u64, u65, u66, u67, u68, u69, u70, u71, u72, u73, u74, u75, u76, u77, u78, u79, u80, u81, u82, u83, u84, u85, u86, u87, u88, u89, u90, u91, u92, u93, u94, u95, u96, u97, u98, u99, u100, u101, u102, u103, u104, u105, u106, u107, u108, u109, u110, u111, u112, u113, u114, u115, u116, u117, u118, u119, u120, u121, u122, u123, u124, u125, u126, u127, u128, u129, u130, u131, u132, u133, u134, u135, u136, u137, u138, u139, u140, u141, u142, u143, u144, u145, u146, u147, u148, u149, u150, u151, u152, u153, u154, u155, u156, u157, u158, u159, u160, u161, u162, u163, u164, u165, u166, u167, u168, u169, u170, u171, u172, u173, u174, u175, u176, u177, u178, u179, u180, u181, u182, u183, u184, u185, u186, u187, u188, u189, u190, u191, u192, u193, u194], defers := [] } w2)) := by
    intro w2 v2 n9 hb hn hk
    obtain ⟨a9, c9, rfl⟩ := hb.shape
    refine ⟨a9, c9, rfl, ?_⟩
    intro u0
    intros
    rw [HRS.out]
    exact en16 w0 w2 B X rep inst view seed blk sa am pa a3 ga ns cs nm cm np cp n3 c3 gn gc V zs zm pre bs (hi.kept hk) (Nat.le_trans hB hk.size) (fun w' hk' => hbel w' (hk.trans hk')) a9 n9 c9 hn hb _ _ _ _ _ _ _ _ _ _ _ _ _ _ _ _ _ _ _ _ _ _ _ _ _ _ _ _ _ _ _ _ _ _ _ _ _ _ _ _ _ _ _ _ _ _ _ _ _ _ _ _ _ _ _ _ _ _ _ _ _ _ _ _ _ _ _ _ _ _ _ _ _ _ _ _ _ _ _ _ _ _ _ _ _ _ _ _ _ _ _ _ _ _ _ _ _ _ _ _ _ _ _ _ _ _ _ _ _ _ _ _ _ _ _ _ _ _ _ _ _ _ _ _ _ _ _ _ _ _ _ _ _ _ _ _ _ _ _ _ _ _ _ _ _ _ _ _ _ _ _ _ _ _ _ _ _ _ _ _ _ _ _ _ _ _ _ _ _ _ _ _ _ _ _ _ _ _ _ _ _ _ _ _ _ _ _ _ _ _ _
  have hns := hi.le.1
  have hnm := hi.le.2.1
  have hnp := hi.le.2.2.1
  have hn3 := hi.le.2.2.2.1
  have HBLK : Hid _ := hi.le.2.2.2.2.2
  have y := hi.x0
  have HC : Hid _ := u64_calls B none _ nb _ (IntKind.u64.wrap rep) wx (u64_lo _) (u64_hi _) hbuf hB (by omega)
  have HN : Hid _ := hnb
  clear hi hbuf hnb hbel
  go_wp2_with (go_at_call 7; refine Calls.mono (HC.out) ?_; rintro e w3 ⟨v3, rfl, hb3, hk3⟩)
  obtain ⟨a9, c9, rfl, hgo⟩ := HALL.out w3 v3 _ hb3 (by have := HN.out; omega) hk3
  exact hgo.out _ _ _ _ _ _ _ _ _ _ _ _ _ _ _ _ _ _ _ _ _ _ _ _ _ _ _ _ _ _ _ _ _ _ _ _ _ _ _ _ _ _ _ _ _ _ _ _ _ _ _ _ _ _ _ _ _ _ _ _ _ _ _ _ _ _ _ _ _ _ _ _ _ _ _ _ _ _ _ _ _ _ _ _ _ _ _ _ _ _ _ _ _ _ _ _ _ _ _ _ _ _ _ _ _ _ _ _ _ _ _ _ _ _ _ _ _ _ _ _ _ _ _ _ _ _ _ _ _ _ _ _ _ _ _ _ _ _ _ _ _ _ _ _ _ _ _ _ _ _ _ _ _ _ _ _ _ _ _ _ _ _ _ _ _ _ _ _ _ _ _ _ _ _ _ _ _ _ _ _ _ _ _ _ _ _ _ _ _ _ _

end Go.Proofs.YbulkawzkFmt
